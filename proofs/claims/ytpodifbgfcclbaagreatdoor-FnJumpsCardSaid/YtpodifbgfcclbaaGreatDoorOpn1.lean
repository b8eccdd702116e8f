/- A list of statements that came in as an argument: what its reading says of memory. -/
import Derived.Test.YtpodifbgfcclbaaGreatDoorMem1
import Derived.Test.YtpodifbgfcclbaaGreatDoorCards
import Derived.Test.YtpodifbgfcclbaaGreatDoorTie
import Derived.ProofKit
import Derived.Carry
import Derived.Lib.SmallJoins
import Derived.Lib.LaidTab
import Derived.Lib.AppendIntMem
import Derived.Deep.DeepHandedRow
set_option linter.unusedVariables false
set_option linter.unusedSimpArgs false
namespace Go.Proofs.YtpodifbgfcclbaaGreatDoor
open Go.ChangeShapes Go.WideShapes Go.ChangeAt Go.RowKit

theorem cells27 : Tryz.prog.cellsOf 27 = 4 := by kernel_rfl
theorem cells25 : Tryz.prog.cellsOf 25 = 1 := by kernel_rfl
theorem cells22 : Tryz.prog.cellsOf 22 = 1 := by kernel_rfl
theorem cells3 : Tryz.prog.cellsOf 3 = 1 := by kernel_rfl
theorem bytes27 : Tryz.prog.bytesOf 27 = 48 := by kernel_rfl
theorem bytes22 : Tryz.prog.bytesOf 22 = 24 := by kernel_rfl
section
variable {H : Type} {enc : TypeId × Value → H} {W : World}

theorem EL_build {w : World} {B b : Nat} : ∀ (len o : Nat), (∀ i, i < len → b < B ∧ ∃ k l d bd a cap, w.cell? ⟨b, o + i * 4, none⟩ = some (.int .i64 k) ∧ w.cell? ⟨b, o + i * 4 + 1, none⟩ = some (.int .i64 l) ∧ w.cell? ⟨b, o + i * 4 + 2, none⟩ = some (.int .i64 d) ∧ w.cell? ⟨b, o + i * 4 + 3, none⟩ = some (.slice a bd.length cap) ∧ SLL w B a cap bd) →
    ∃ l : List Fl, l.length = len ∧ EL w B b o l
  | 0, o, _ => ⟨[], rfl, EL_nil⟩
  | len + 1, o, h => by
    obtain ⟨hb, k, l, d, bd, a, cap, h1, h2, h3, h4, h5⟩ := h 0 (by omega)
    obtain ⟨xs, g1, g2⟩ := EL_build len (o + 4) (fun i hi => by
      have := h (i + 1) (by omega)
      rw [show o + (i + 1) * 4 = o + 4 + i * 4 by omega] at this
      exact this)
    exact ⟨.mk k l d bd :: xs, by simp [g1], EL_cons.2 ⟨hb, by simpa using h1, by simpa using h2, by simpa using h3, ⟨a, cap, by simpa using h4, h5⟩, g2⟩⟩
theorem ELL_build {w : World} {B b : Nat} : ∀ (len o : Nat), (∀ i, i < len → b < B ∧ ∃ (y : List Fl) (a : Option Addr) (cap : Nat), w.cell? ⟨b, o + i, none⟩ = some (.slice a y.length cap) ∧ SL w B a cap y) →
    ∃ l : List (List Fl), l.length = len ∧ ELL w B b o l
  | 0, o, _ => ⟨[], rfl, ELL_nil⟩
  | len + 1, o, h => by
    obtain ⟨hb, y, a, cap, h1, h2⟩ := h 0 (by omega)
    obtain ⟨xs, g1, g2⟩ := ELL_build len (o + 1) (fun i hi => by
      have := h (i + 1) (by omega)
      rw [show o + (i + 1) = o + 1 + i by omega] at this
      exact this)
    exact ⟨y :: xs, by simp [g1], ELL_cons.2 ⟨hb, ⟨a, cap, by simpa using h1, h2⟩, g2⟩⟩
theorem weightsAll_mem {P : Program} {e : TypeId} : ∀ {l : List (DataW H)} {d : DataW H}, d ∈ l → ∀ x ∈ d.weights P e, x ∈ DataW.weightsAll P e l
  | [], d, h, x, hx => by cases h
  | y :: l, d, h, x, hx => by
    rw [DataW.weightsAll, List.mem_append]
    rcases List.mem_cons.1 h with rfl | h
    · exact .inl hx
    · exact .inr (weightsAll_mem h x hx)
/-- An address of which a cell is read bears no spot. -/
theorem addr_plain {w : World} {a : Addr} {v : Value} (h : w.cell? a = some v) : a = ⟨a.block, a.off, none⟩ ∧ a.block < w.heap.size := by
  have hb := World.block_lt_of_cell? w _ h
  refine ⟨?_, hb⟩
  unfold World.cell? at h
  split at h
  · split at h
    · cases h
    · rename_i hs
      cases a with
      | mk b o s =>
        cases s with
        | none => rfl
        | some s => simp at hs
  · cases h
theorem add_plain (b o n : Nat) : Addr.add ⟨b, o, none⟩ n = ⟨b, o + n, none⟩ := by
  unfold Addr.add
  split
  · subst_vars; rfl
  · rfl
set_option maxRecDepth 100000 in
theorem open_all (fuel : Nat) :
    (∀ (cs : List Value) (x : DataW H × List MemPlace), DataW.trod enc Tryz.prog W 0 (fun _ => true) true fuel 22 cs = some x → (∀ n ∈ x.1.weights Tryz.prog 22, n ≤ reachBytes) → ∃ a cap l, cs = [.slice a l.length cap] ∧ SL W W.heap.size a cap l) ∧
    (∀ (cs : List Value) (x : DataW H × List MemPlace), DataW.trod enc Tryz.prog W 0 (fun _ => true) true fuel 25 cs = some x → (∀ n ∈ x.1.weights Tryz.prog 25, n ≤ reachBytes) → ∃ a cap l, cs = [.slice a l.length cap] ∧ SLL W W.heap.size a cap l) ∧
    (∀ (cs : List Value) (x : DataW H × List MemPlace), DataW.trod enc Tryz.prog W 0 (fun _ => true) true fuel 27 cs = some x → (∀ n ∈ x.1.weights Tryz.prog 27, n ≤ reachBytes) → ∃ k l d a cap bd, cs = [.int .i64 k, .int .i64 l, .int .i64 d, .slice a bd.length cap] ∧ SLL W W.heap.size a cap bd) := by
  induction fuel with
  | zero => exact ⟨fun cs x h => by simp [DataW.trod] at h, fun cs x h => by simp [DataW.trod] at h, fun cs x h => by simp [DataW.trod] at h⟩
  | succ fuel ih =>
    obtain ⟨ih1, ih2, ih3⟩ := ih
    refine ⟨?_, ?_, ?_⟩
    · intro cs x h hw
      rcases DataW.trod_slice Tryz.underlying22 h with ⟨rfl, _⟩ | ⟨a, len, cap, elems, rest, n, hf, rfl, rfl, _, hle, hmx, hlen, hel, hsp, _⟩
      · exact ⟨none, 0, [], rfl, SL.nil⟩
      · obtain rfl : fuel = n := by omega
        have hrest := (hsp rfl).1
        have hbound : cap * 48 ≤ 140737488355328 := by
          have := hw ((elems.length + rest.length) * 48) (by
            show _ ∈ DataW.weights Tryz.prog 22 (.slice _ _)
            rw [DataW.weights, Tryz.underlying22]
            simp [bytes27])
          rw [hlen, hrest] at this
          unfold reachBytes at this
          have e : len + (cap - len) = cap := by omega
          rw [e] at this
          omega
        have hget : ∀ i, i < len → ∃ cs' y, W.cells? 0 (a.add (i * 4)) 4 = some cs' ∧ DataW.trod enc Tryz.prog W 0 (fun _ => true) true fuel 27 cs' = some y ∧ y ∈ elems := by
          intro i hi
          have h1 := hel i hi
          rw [cells27] at h1
          have h2 : elems[i]? = some elems[i] := List.getElem?_eq_getElem (by omega)
          rw [h2] at h1
          cases hc : W.cells? 0 (a.add (i * 4)) 4 with
          | none => rw [hc] at h1; cases h1
          | some cs' =>
            rw [hc] at h1
            exact ⟨cs', _, rfl, h1, List.getElem_mem _⟩
        by_cases hz : len = 0
        · subst hz
          exact ⟨some a, cap, [], rfl, Nat.zero_le _, by simp, 0, 0, fun h => absurd rfl h, EL_nil⟩
        · obtain ⟨b, o, rfl⟩ : ∃ b o, a = ⟨b, o, none⟩ := by
            obtain ⟨cs', y, h1, _, _⟩ := hget 0 (by omega)
            obtain ⟨_, hl4, hc⟩ := World.cells?_some h1
            have := hc 0 (by omega)
            have h0 : cs'[0]? = some cs'[0] := List.getElem?_eq_getElem (by omega)
            rw [h0] at this
            exact ⟨_, _, (addr_plain (a := a) (by simpa [Addr.add] using this)).1⟩
          obtain ⟨l, g1, g2⟩ := EL_build (w := W) (B := W.heap.size) (b := b) len o (fun i hi => by
            obtain ⟨cs', y, h1, h2, h3⟩ := hget i hi
            obtain ⟨_, hl4, hc⟩ := World.cells?_some h1
            obtain ⟨k, l, d, a', cap', bd, rfl, hbd⟩ := ih3 cs' y h2 (fun n hn => hw n (by
              show n ∈ DataW.weights Tryz.prog 22 (.slice _ _)
              rw [DataW.weights, Tryz.underlying22]
              simp only [List.mem_cons, List.mem_append]
              exact .inr (.inl (weightsAll_mem (List.mem_map_of_mem h3) n hn))))
            have c0 := hc 0 (by omega)
            have c1 := hc 1 (by omega)
            have c2 := hc 2 (by omega)
            have c3 := hc 3 (by omega)
            rw [add_plain, add_plain] at c0 c1 c2 c3
            exact ⟨(addr_plain c0).2, k, l, d, bd, a', cap', c0, c1, c2, c3, hbd⟩)
          exact ⟨some ⟨b, o, none⟩, cap, l, by rw [g1], by omega, by omega, b, o, fun _ => rfl, g2⟩
    · intro cs x h hw
      rcases DataW.trod_slice Tryz.underlying25 h with ⟨rfl, _⟩ | ⟨a, len, cap, elems, rest, n, hf, rfl, rfl, _, hle, hmx, hlen, hel, hsp, _⟩
      · exact ⟨none, 0, [], rfl, SLL.nil⟩
      · obtain rfl : fuel = n := by omega
        have hrest := (hsp rfl).1
        have hbound : cap * 24 ≤ 140737488355328 := by
          have := hw ((elems.length + rest.length) * 24) (by
            show _ ∈ DataW.weights Tryz.prog 25 (.slice _ _)
            rw [DataW.weights, Tryz.underlying25]
            simp [bytes22])
          rw [hlen, hrest] at this
          unfold reachBytes at this
          have e : len + (cap - len) = cap := by omega
          rw [e] at this
          omega
        have hget : ∀ i, i < len → ∃ cs' y, W.cells? 0 (a.add (i * 1)) 1 = some cs' ∧ DataW.trod enc Tryz.prog W 0 (fun _ => true) true fuel 22 cs' = some y ∧ y ∈ elems := by
          intro i hi
          have h1 := hel i hi
          rw [cells22] at h1
          have h2 : elems[i]? = some elems[i] := List.getElem?_eq_getElem (by omega)
          rw [h2] at h1
          cases hc : W.cells? 0 (a.add (i * 1)) 1 with
          | none => rw [hc] at h1; cases h1
          | some cs' =>
            rw [hc] at h1
            exact ⟨cs', _, rfl, h1, List.getElem_mem _⟩
        by_cases hz : len = 0
        · subst hz
          exact ⟨some a, cap, [], rfl, Nat.zero_le _, by simp, 0, 0, fun h => absurd rfl h, ELL_nil⟩
        · obtain ⟨b, o, rfl⟩ : ∃ b o, a = ⟨b, o, none⟩ := by
            obtain ⟨cs', y, h1, _, _⟩ := hget 0 (by omega)
            obtain ⟨_, hl4, hc⟩ := World.cells?_some h1
            have := hc 0 (by omega)
            have h0 : cs'[0]? = some cs'[0] := List.getElem?_eq_getElem (by omega)
            rw [h0] at this
            exact ⟨_, _, (addr_plain (a := a) (by simpa [Addr.add] using this)).1⟩
          obtain ⟨l, g1, g2⟩ := ELL_build (w := W) (B := W.heap.size) (b := b) len o (fun i hi => by
            obtain ⟨cs', y, h1, h2, h3⟩ := hget i hi
            obtain ⟨_, hl4, hc⟩ := World.cells?_some h1
            obtain ⟨a', cap', y', rfl, hy⟩ := ih1 cs' y h2 (fun n hn => hw n (by
              show n ∈ DataW.weights Tryz.prog 25 (.slice _ _)
              rw [DataW.weights, Tryz.underlying25]
              simp only [List.mem_cons, List.mem_append]
              exact .inr (.inl (weightsAll_mem (List.mem_map_of_mem h3) n hn))))
            have c0 := hc 0 (by omega)
            rw [add_plain, add_plain] at c0
            have c0' : W.cell? ⟨b, o + i, none⟩ = some (.slice a' y'.length cap') := by simpa using c0
            exact ⟨(addr_plain c0').2, y', a', cap', c0', hy⟩)
          exact ⟨some ⟨b, o, none⟩, cap, l, by rw [g1], by omega, by omega, b, o, fun _ => rfl, g2⟩
    · intro cs x h hw
      obtain ⟨xs, n, hf, rfl, hl, hlen, hfs⟩ := DataW.trod_struct Tryz.underlying27 h
      obtain rfl : fuel = n := by omega
      rw [cells27] at hl
      match cs, hl with
      | [v0, v1, v2, v3], _ =>
        match xs, hlen with
        | [y0, y1, y2, y3], _ =>
          have h0 : DataW.trod enc Tryz.prog W 0 (fun _ => true) true fuel 3 (List.take (Tryz.prog.cellsOf 3) (List.drop 0 [v0, v1, v2, v3])) = some y0 := hfs 0 _ rfl
          have h1 : DataW.trod enc Tryz.prog W 0 (fun _ => true) true fuel 3 (List.take (Tryz.prog.cellsOf 3) (List.drop 1 [v0, v1, v2, v3])) = some y1 := hfs 1 _ rfl
          have h2 : DataW.trod enc Tryz.prog W 0 (fun _ => true) true fuel 3 (List.take (Tryz.prog.cellsOf 3) (List.drop 2 [v0, v1, v2, v3])) = some y2 := hfs 2 _ rfl
          have h3 : DataW.trod enc Tryz.prog W 0 (fun _ => true) true fuel 25 (List.take (Tryz.prog.cellsOf 25) (List.drop 3 [v0, v1, v2, v3])) = some y3 := hfs 3 _ rfl
          rw [cells3] at h0 h1 h2
          rw [cells25] at h3
          obtain ⟨k, e0, _, _⟩ := DataW.trod_int Tryz.underlying3 h0
          obtain ⟨l, e1, _, _⟩ := DataW.trod_int Tryz.underlying3 h1
          obtain ⟨d, e2, _, _⟩ := DataW.trod_int Tryz.underlying3 h2
          obtain ⟨a, cap, bd, e3, hbd⟩ := ih2 _ y3 h3 (fun m hm => hw m (by
            show m ∈ DataW.weights Tryz.prog 27 (.agg _)
            rw [DataW.weights, Tryz.underlying27]
            simp only [List.map_cons, List.map_nil, DataW.weightsEach, List.mem_append]
            exact .inr (.inr (.inr (.inl hm)))))
          simp at e0 e1 e2 e3
          subst e0 e1 e2 e3
          exact ⟨k, l, d, a, cap, bd, rfl, hbd⟩
end
end Go.Proofs.YtpodifbgfcclbaaGreatDoor
