/- Maps from names. -/
import Derived.Test.YtpodifbgfcclbaaGreatDoorJm1
import Derived.MapKept
set_option linter.unusedVariables false
set_option linter.unusedSimpArgs false
namespace Go.Proofs.YtpodifbgfcclbaaGreatDoor
open Go.RowKit
attribute [local go_sem] Nat.lt_add_one_of_lt

/-- What the list says of a name. -/
def sget (kvs : List (ByteArray × Value)) (s : ByteArray) : Option Value := (kvs.find? fun e => decide (e.1 = s)).map Prod.snd
def SEs (es : List MapEntry) (kvs : List (ByteArray × Value)) : Prop := es.map (fun e => (e.key, e.val)) = kvs.map fun e => (.string e.1, e.2)
/-- Block R is a map from names. -/
def SMap (w : World) (R : Nat) (kvs : List (ByteArray × Value)) : Prop := ∃ es clk, w.heap[R]? = some (.map es clk) ∧ SEs es.toList kvs
theorem SMap.lt {w : World} {R : Nat} {kvs : List (ByteArray × Value)} (h : SMap w R kvs) : R < w.heap.size := by
  obtain ⟨es, clk, h, _⟩ := h
  exact (Array.getElem?_eq_some_iff.1 h).1
theorem SMap.keep {w w' : World} {R : Nat} {kvs : List (ByteArray × Value)} (h : SMap w R kvs) (hk : w'.heap[R]? = w.heap[R]?) : SMap w' R kvs := by
  obtain ⟨es, clk, h, h2⟩ := h
  exact ⟨es, clk, hk.trans h, h2⟩
theorem SMap.new (w : World) : SMap (w.alloc (.map #[] 0)) w.heap.size [] := ⟨#[], 0, heap_alloc_new w _, rfl⟩
theorem bts_same (s : ByteArray) : (s == s) = true := (MapKept.bytes_beq s s).2 rfl
theorem bts_ne {s t : ByteArray} (h : s ≠ t) : (s == t) = false := by
  cases hh : (s == t) with
  | false => rfl
  | true => exact absurd ((MapKept.bytes_beq s t).1 hh) h
theorem findNow_str (s : ByteArray) : ∀ (es : List MapEntry) (kvs : List (ByteArray × Value)) (i : Nat), SEs es kvs →
    ∃ r, Instr.findNow .string (.string s) es i = some r ∧ r.map Prod.snd = sget kvs s ∧ ∀ j v, r = some (j, v) → i ≤ j
  | [], [], i, _ => ⟨none, rfl, rfl, by simp⟩
  | [], _ :: _, i, h => by simp [SEs] at h
  | _ :: _, [], i, h => by simp [SEs] at h
  | e :: es, kv :: kvs, i, h => by
    simp only [SEs, List.map_cons, List.cons.injEq, Prod.mk.injEq] at h
    obtain ⟨⟨h1, h2⟩, h3⟩ := h
    obtain ⟨r, q1, q2, q3⟩ := findNow_str s es kvs (i + 1) h3
    by_cases hs : kv.1 = s
    · refine ⟨some (i, e.val), ?_, ?_, ?_⟩
      · simp [Instr.findNow, Instr.sameNow, h1, hs, bts_same]
      · simp [sget, hs, h2]
      · rintro j v ⟨⟩; omega
    · have hs' : (s == kv.1) = false := bts_ne fun e => hs e.symm
      refine ⟨r, ?_, ?_, fun j v e => by have := q3 j v e; omega⟩
      · simp [Instr.findNow, Instr.sameNow, h1, hs', q1]
      · rw [q2]; simp [sget, hs]
theorem und9 : Tryz.prog.underlying 9 = some .string := by kernel_rfl
theorem und151 : Tryz.prog.underlying 151 = some (.map 9 104) := by kernel_rfl
theorem und157 : Tryz.prog.underlying 157 = some (.map 9 156) := by kernel_rfl
theorem run_checkKey9 (b : Bool) (v : Value) (w : World) : (Instr.checkKey b 10000 9 v).run Tryz.prog w = .ok () w := by
  have hp := und9
  have h : ∀ n, (Instr.checkKey b (n + 1) 9 v).run Tryz.prog w = .ok () w := fun n => by
    simp [Instr.checkKey, run_underlying hp]
  exact h 9999
theorem run_findKey9 (s : ByteArray) (w : World) (es : List MapEntry) (kvs : List (ByteArray × Value)) (h : SEs es kvs) :
    ∃ r, (Instr.findKey 9 (.string s) es).run Tryz.prog w = .ok r w ∧ r.map Prod.snd = sget kvs s := by
  obtain ⟨r, h1, h2, _⟩ := findNow_str s es kvs 0 h
  exact ⟨r, by simp [Instr.findKey, run_underlying und9, h1], h2⟩
theorem run_look (t e : Nat) (z : Value) (ok : Bool) (ht : Tryz.prog.underlying t = some (.map 9 e)) (hz : ∀ w, (zeroValue e).run Tryz.prog w = .ok z w) (R : Nat) (s : ByteArray) (kvs : List (ByteArray × Value)) (w : World) (h : SMap w R kvs) :
    (Instr.lookup t (.map (some R)) (.string s) ok).run Tryz.prog w = .ok (if ok then .tuple #[(sget kvs s).getD z, .bool (sget kvs s).isSome] else (sget kvs s).getD z) w := by
  obtain ⟨es, clk, hR, hes⟩ := h
  obtain ⟨r, hr, hh⟩ := run_findKey9 s w es.toList kvs hes
  have hg : Sem.run Tryz.prog (Sem.getObj R Sem.pure) w = .ok (.map es clk) w := by simp [Sem.run, hR]
  cases r with
  | none =>
    have hh : sget kvs s = none := by rw [← hh]; rfl
    rw [hh]
    simp [Instr.lookup, run_underlying ht, getObj, hg, run_checkKey9, hr, hz]
  | some r =>
    have hh : sget kvs s = some r.2 := by rw [← hh]; rfl
    rw [hh]
    simp [Instr.lookup, run_underlying ht, getObj, hg, run_checkKey9, hr]
theorem run_look_nil (t e : Nat) (z : Value) (ok : Bool) (ht : Tryz.prog.underlying t = some (.map 9 e)) (hz : ∀ w, (zeroValue e).run Tryz.prog w = .ok z w) (s : ByteArray) (w : World) :
    (Instr.lookup t (.map none) (.string s) ok).run Tryz.prog w = .ok (if ok then .tuple #[z, .bool false] else z) w := by
  obtain ⟨r, hr, hh⟩ := run_findKey9 s w [] [] rfl
  have hr0 : r = none := by
    cases r with
    | none => rfl
    | some r => simp [sget] at hh
  subst hr0
  simp [Instr.lookup, run_underlying ht, run_checkKey9, hr, hz]
theorem run_upd (t e : Nat) (ht : Tryz.prog.underlying t = some (.map 9 e)) (R : Nat) (s : ByteArray) (v : Value) (kvs : List (ByteArray × Value)) (w : World) (h : SMap w R kvs) (hn : sget kvs s = none) :
    ∃ es clk, (Instr.mapUpdate t (.map (some R)) (.string s) v).run Tryz.prog w = .ok () (setObj w R (.map es clk)) ∧ SMap (setObj w R (.map es clk)) R (kvs ++ [(s, v)]) := by
  have hlt := h.lt
  obtain ⟨es, clk, hR, hes⟩ := h
  obtain ⟨r, hr, hh⟩ := run_findKey9 s w es.toList kvs hes
  have hg : Sem.run Tryz.prog (Sem.getObj R Sem.pure) w = .ok (.map es clk) w := by simp [Sem.run, hR]
  cases r with
  | some r => rw [hn] at hh; cases hh
  | none =>
    refine ⟨es.push { key := .string s, val := v, born := clk }, clk + 1, ?_, _, _, setObj_same w R _ hlt, ?_⟩
    · have hs : ∀ o, Sem.run Tryz.prog (Sem.setObj R o (Sem.pure ())) w = .ok () (setObj w R o) := fun o => by simp [Sem.run, hR, setObj]
      simp [Instr.mapUpdate, run_underlying ht, getObj, Go.setObj, hg, run_checkKey9, hr, hs]
    · unfold SEs at hes ⊢
      simp [hes]
theorem zero104 (w : World) : (zeroValue 104).run Tryz.prog w = .ok .nilIface w := by kernel_rfl
theorem zero156 (w : World) : (zeroValue 156).run Tryz.prog w = .ok (.pointer none) w := by kernel_rfl
end Go.Proofs.YtpodifbgfcclbaaGreatDoor

/- What all blocks of a function share: the checker and the labels. -/
set_option linter.unusedVariables false
set_option linter.unusedSimpArgs false
namespace Go.Proofs.YtpodifbgfcclbaaGreatDoor
open Go.RowKit
attribute [local go_sem] Nat.lt_add_one_of_lt

theorem nm_pos {a : Int} (h : 1 ≤ a) : nm a = ⟨#[76, UInt8.ofNat (48 + a.toNat)]⟩ := by
  rw [nm, if_neg (by omega), if_neg (by omega)]
theorem nm_inj {a b : Int} (ha : 1 ≤ a) (ha2 : a ≤ 9) (hb : -1 ≤ b) (hb2 : b ≤ 9) (h : nm a = nm b) : a = b := by
  rw [nm_pos ha] at h
  have h1 := congrArg (fun x : ByteArray => x.data.toList) h
  by_cases h0 : b = 0
  · subst h0; simp [nm] at h1
  · by_cases hn : b < 0
    · rw [nm, if_neg h0, if_pos hn] at h1
      simp at h1
    · rw [nm, if_neg h0, if_neg hn] at h1
      simp only [List.cons.injEq, and_true, true_and] at h1
      have h2 := congrArg UInt8.toNat h1
      simp only [UInt8.toNat_ofNat'] at h2
      omega
theorem nm_ne {a b : Int} (ha : 1 ≤ a) (ha2 : a ≤ 9) (hb : -1 ≤ b) (hb2 : b ≤ 9) (h : a ≠ b) : nm a ≠ nm b := fun e => h (nm_inj ha ha2 hb hb2 e)

abbrev GD := List (Int × Bool × Nat)
def dsG (gd : GD) : List (Int × Bool) := gd.map fun e => (e.1, e.2.1)
def kvG (gd : GD) : List (ByteArray × Value) := gd.map fun e => (nm e.1, .iface 108 (.pointer (some ⟨e.2.2, 0, none⟩)))
def useG (n : Int) (gd : GD) : GD := gd.map fun e => if e.1 = n then (e.1, true, e.2.2) else e
structure GSt (H0 C A M0 : Nat) (gd : GD) (k : Nat) (w : World) : Prop where
  chk : Chk H0 C k w
  scp : ∃ v, w.heap[A]? = some (.cells #[.map (some M0), v] 154) ∧ w.ownsRow H0 9 1 v gd.length (gd.map fun e => .string (nm e.1))
  map : SMap w M0 (kvG gd)
  lab : ∀ e ∈ gd, H0 ≤ e.2.2 ∧ 1 ≤ e.1 ∧ e.1 ≤ 9 ∧ ∃ p, w.heap[e.2.2]? = some (.cells #[.int .i64 p, .string (nm e.1), .bool e.2.1] 107)
  nod : (gd.map fun e => e.2.2).Nodup
  key : (gd.map fun e => e.1).Nodup
  hA : H0 ≤ A
  hM : H0 ≤ M0
  sz : H0 ≤ w.heap.size
/-- Blocks that the shared state may change. -/
def Gx (M0 : Nat) (w : World) (k : Nat) : Prop := k = M0 ∨ ∃ cs T f, w.heap[k]? = some (.cells cs T f) ∧ (T = 72 ∨ T = 201 ∨ T = 154 ∨ T = 9 ∨ T = 107)
structure GF (H0 M0 N : Nat) (w w' : World) : Prop where
  os : w'.os = w.os
  tape : w'.tape = w.tape
  output : w'.output = w.output
  size : w.heap.size ≤ w'.heap.size
  low : ∀ k, k < H0 → w'.heap[k]? = w.heap[k]?
  blk : ∀ k, k < N → ¬ Gx M0 w k → w'.heap[k]? = w.heap[k]?
theorem GF.refl (H0 M0 N : Nat) (w : World) : GF H0 M0 N w w := ⟨rfl, rfl, rfl, Nat.le_refl _, fun _ _ => rfl, fun _ _ _ => rfl⟩
theorem GF.trans {H0 M0 N : Nat} {a b c : World} (h : GF H0 M0 N a b) (k : GF H0 M0 N b c) : GF H0 M0 N a c :=
  ⟨k.os.trans h.os, k.tape.trans h.tape, k.output.trans h.output, Nat.le_trans h.size k.size, fun i hi => (k.low i hi).trans (h.low i hi), fun i hi hx => (k.blk i hi fun hg => hx (by
    rcases hg with rfl | ⟨cs, T, f, h1, h2⟩
    · exact .inl rfl
    · exact .inr ⟨cs, T, f, (h.blk i hi hx).symm.trans h1, h2⟩)).trans (h.blk i hi hx)⟩
theorem GF.mono {H0 M0 N N' : Nat} {a b : World} (h : GF H0 M0 N a b) (hN : N' ≤ N) : GF H0 M0 N' a b := ⟨h.os, h.tape, h.output, h.size, h.low, fun k hk => h.blk k (by omega)⟩
theorem GF.alloc {H0 M0 N : Nat} {a b : World} (h : GF H0 M0 N a b) (h0 : H0 ≤ b.heap.size) (hN : N ≤ b.heap.size) (o : Obj) : GF H0 M0 N a (b.alloc o) :=
  h.trans ⟨rfl, rfl, rfl, by simp, fun k hk => Below.heap_alloc _ _ _ (by omega), fun k hk _ => Below.heap_alloc _ _ _ (by omega)⟩
theorem GF.drew {H0 M0 N : Nat} {a b : World} (h : GF H0 M0 N a b) : GF H0 M0 N a b.drew := ⟨h.os, h.tape, h.output, h.size, h.low, h.blk⟩
theorem GF.setCell {H0 M0 N : Nat} {a b : World} (h : GF H0 M0 N a b) {p : Addr} (h0 : H0 ≤ p.block) (hx : N ≤ p.block ∨ Gx M0 b p.block) (v : Value) : GF H0 M0 N a (b.setCell p v) :=
  h.trans ⟨rfl, rfl, rfl, by simp, fun k hk => blk_far _ (by omega), fun k hk hg => blk_far _ (by rintro rfl; exact hx.elim (fun h => by omega) hg)⟩
theorem GF.setObj {H0 M0 N : Nat} {a b : World} (h : GF H0 M0 N a b) (h0 : H0 ≤ M0) (o : Obj) : GF H0 M0 N a (setObj b M0 o) :=
  h.trans ⟨rfl, rfl, rfl, by rw [setObj_size]; exact Nat.le_refl _, fun k hk => setObj_heap _ _ _ _ (by omega), fun k hk hg => setObj_heap _ _ _ _ (fun e => hg (.inl e))⟩
theorem ChkF.gf {H0 C M0 N k : Nat} {w w' : World} (hc : Chk H0 C k w) (h : ChkF H0 C w w') (h0 : H0 ≤ w.heap.size) (hN : N ≤ w.heap.size) : GF H0 M0 N w w' := by
  obtain ⟨r, g1, g2, g3, g4, g5, g6⟩ := h
  obtain ⟨q1, v, xs, q2, q3⟩ := hc
  refine ⟨g2, g3, g4, g5, fun k hk => g6 k (by omega) (by omega) (fun e => by have := (g1 k e.symm).1; omega), fun k hk hx => g6 k (by omega) ?_ ?_⟩
  · rintro rfl
    exact hx (.inr ⟨_, _, _, q2, .inl rfl⟩)
  · intro e
    obtain ⟨_, cs, f, q⟩ := g1 k e.symm
    exact hx (.inr ⟨_, _, _, q, .inr (.inl rfl)⟩)
/-- The shared state stays while none of its blocks is changed. -/
theorem GSt.keep {H0 C A M0 k : Nat} {gd : GD} {w w' : World} (h : GSt H0 C A M0 gd k w) (hs : w.heap.size ≤ w'.heap.size) (hk : ∀ j, Gx M0 w j → w'.heap[j]? = w.heap[j]?) : GSt H0 C A M0 gd k w' where
  chk := h.chk.keep fun j cs T f h1 h2 => hk j (.inr ⟨cs, T, f, h1, by rcases h2 with h2 | h2 <;> simp [h2]⟩)
  scp := by
    obtain ⟨v, h1, h2⟩ := h.scp
    refine ⟨v, (hk A (.inr ⟨_, _, _, h1, by simp⟩)).trans h1, row_keep h2 fun g hg => ?_⟩
    obtain ⟨_, _, cs, h3⟩ := row_blk h2 hg
    exact hk g (.inr ⟨_, _, _, h3, by simp⟩)
  map := h.map.keep (hk M0 (.inl rfl))
  lab := fun e he => by
    obtain ⟨h1, h2, h3, p, h4⟩ := h.lab e he
    exact ⟨h1, h2, h3, p, (hk _ (.inr ⟨_, _, _, h4, by simp⟩)).trans h4⟩
  nod := h.nod
  key := h.key
  hA := h.hA
  hM := h.hM
  sz := Nat.le_trans h.sz hs
theorem Gx.lt {M0 j : Nat} {w : World} (h : Gx M0 w j) (hM : M0 < w.heap.size) : j < w.heap.size := by
  rcases h with rfl | ⟨cs, T, f, h, _⟩
  · exact hM
  · exact (Array.getElem?_eq_some_iff.1 h).1
theorem GSt.alloc {H0 C A M0 k : Nat} {gd : GD} {w : World} (h : GSt H0 C A M0 gd k w) (o : Obj) : GSt H0 C A M0 gd k (w.alloc o) :=
  h.keep (by simp) fun j hj => Below.heap_alloc _ _ _ (hj.lt h.map.lt)
theorem GSt.drew {H0 C A M0 k : Nat} {gd : GD} {w : World} (h : GSt H0 C A M0 gd k w) : GSt H0 C A M0 gd k w.drew := h.keep (Nat.le_refl _) fun _ _ => rfl
/-- A store elsewhere. -/
theorem GSt.setCell {H0 C A M0 k : Nat} {gd : GD} {w : World} (h : GSt H0 C A M0 gd k w) {p : Addr} (hp : ¬ Gx M0 w p.block) (v : Value) : GSt H0 C A M0 gd k (w.setCell p v) :=
  h.keep (by simp) fun j hj => blk_far _ (by rintro rfl; exact hp hj)
theorem not_Gx {M0 j T : Nat} {w : World} {cs : Array Value} {f : Nat × Nat} (h : w.heap[j]? = some (.cells cs T f)) (hT : T ≠ 72 ∧ T ≠ 201 ∧ T ≠ 154 ∧ T ≠ 9 ∧ T ≠ 107) (hM : j ≠ M0) : ¬ Gx M0 w j := by
  rintro (rfl | ⟨cs', T', f', h1, h2⟩)
  · exact hM rfl
  · rw [h] at h1
    cases h1
    rcases h2 with rfl | rfl | rfl | rfl | rfl <;> simp at hT
/-- Something is reported. -/
theorem GSt.reported {H0 C A M0 k : Nat} {gd : GD} {w w' : World} (h : GSt H0 C A M0 gd k w) (hc : Chk H0 C (k + 1) w') (hf : ChkF H0 C w w') : GSt H0 C A M0 gd (k + 1) w' where
  chk := hc
  scp := by
    obtain ⟨v, h1, h2⟩ := h.scp
    refine ⟨v, hf.typ h.chk h1 (by decide) (by decide), row_keep h2 fun g hg => ?_⟩
    obtain ⟨_, _, cs, h3⟩ := row_blk h2 hg
    exact (hf.typ h.chk h3 (by decide) (by decide)).trans h3.symm
  map := by
    obtain ⟨es, clk, hm, hes⟩ := h.map
    obtain ⟨r, g1, _, _, _, _, g6⟩ := hf
    obtain ⟨_, v, xs, hC, _⟩ := h.chk
    refine ⟨es, clk, (g6 M0 (Array.getElem?_eq_some_iff.1 hm).1 ?_ ?_).trans hm, hes⟩
    · rintro rfl
      rw [hm] at hC; cases hC
    · intro e
      obtain ⟨_, cs, f, q⟩ := g1 M0 e.symm
      rw [hm] at q; cases q
  lab := fun e he => by
    obtain ⟨h1, h2, h3, p, h4⟩ := h.lab e he
    exact ⟨h1, h2, h3, p, hf.typ h.chk h4 (by decide) (by decide)⟩
  nod := h.nod
  key := h.key
  hA := h.hA
  hM := h.hM
  sz := by obtain ⟨r, _, _, _, _, g5, _⟩ := hf; have := h.sz; omega
theorem map_inj {α β : Type} {f : α → β} : ∀ {l : List α}, (l.map f).Nodup → ∀ {a b : α}, a ∈ l → b ∈ l → f a = f b → a = b
  | x :: l, h, a, b, ha, hb, e => by
    rw [List.map_cons, List.nodup_cons] at h
    rcases List.mem_cons.1 ha with ha | ha <;> rcases List.mem_cons.1 hb with hb' | hb'
    · rw [ha, hb']
    · exact absurd (show f x ∈ l.map f by rw [← ha, e]; exact List.mem_map_of_mem hb') h.1
    · exact absurd (show f x ∈ l.map f by rw [← hb', ← e]; exact List.mem_map_of_mem ha) h.1
    · exact map_inj h.2 ha hb' e
theorem mem_useG {n : Int} {gd : GD} {e : Int × Bool × Nat} (h : e ∈ useG n gd) : ∃ e' ∈ gd, e.1 = e'.1 ∧ e.2.2 = e'.2.2 ∧ (e.1 = n → e.2.1 = true) ∧ (e.1 ≠ n → e = e') := by
  obtain ⟨e', h1, h2⟩ := List.mem_map.1 h
  refine ⟨e', h1, ?_⟩
  split at h2
  · subst h2; simp_all
  · subst h2; simp_all
theorem useG_map {α : Type} (n : Int) (gd : GD) (f : Int × Bool × Nat → α) (hf : ∀ a b c d, f (a, b, c) = f (a, d, c)) : (useG n gd).map f = gd.map f := by
  simp only [useG, List.map_map]
  refine List.map_congr_left fun e _ => ?_
  simp only [Function.comp]
  split
  · exact hf _ _ _ _
  · rfl
theorem useG_ds (n : Int) (gd : GD) : dsG (useG n gd) = useL n (dsG gd) := by
  simp only [dsG, useG, useL, List.map_map]
  refine List.map_congr_left fun e _ => ?_
  simp only [Function.comp]
  split <;> simp_all
/-- A label is used. -/
theorem GSt.used {H0 C A M0 k : Nat} {gd : GD} {w : World} (h : GSt H0 C A M0 gd k w) {e : Int × Bool × Nat} (he : e ∈ gd) : GSt H0 C A M0 (useG e.1 gd) k (w.setCell ⟨e.2.2, 2, none⟩ (.bool true)) := by
  obtain ⟨hh, _, _, p0, hb⟩ := h.lab e he
  have far : ∀ (j : Nat) (cs : Array Value) (T : Nat) (f : Nat × Nat), w.heap[j]? = some (Obj.cells cs T f) → T ≠ 107 → (w.setCell ⟨e.2.2, 2, none⟩ (.bool true)).heap[j]? = w.heap[j]? := fun j cs T f hj hT => blk_far _ (by
    rintro rfl
    rw [hb] at hj
    cases hj
    exact hT rfl)
  refine ⟨h.chk.keep fun j cs T f h1 h2 => far j cs T f h1 (by omega), ?_, ?_, fun x hx => ?_, ?_, ?_, h.hA, h.hM, by have := h.sz; simpa using this⟩
  · obtain ⟨v, h1, h2⟩ := h.scp
    refine ⟨v, (far _ _ _ _ h1 (by decide)).trans h1, ?_⟩
    rw [useG_map _ _ _ fun _ _ _ _ => rfl, show (useG e.1 gd).length = gd.length by simp [useG]]
    refine row_keep h2 fun g hg => ?_
    obtain ⟨_, _, cs, h3⟩ := row_blk h2 hg
    exact far _ _ _ _ h3 (by decide)
  · have : kvG (useG e.1 gd) = kvG gd := useG_map _ _ _ fun _ _ _ _ => rfl
    rw [this]
    refine h.map.keep (blk_far _ ?_)
    obtain ⟨es, clk, hm, _⟩ := h.map
    intro e
    rw [e] at hm
    simp only at hm
    rw [hb] at hm
    cases hm
  · obtain ⟨x', hx', h1, h2, h3, h4⟩ := mem_useG hx
    obtain ⟨q1, q2, q3, p, q4⟩ := h.lab x' hx'
    rw [h1, h2]
    refine ⟨q1, q2, q3, p, ?_⟩
    by_cases hxe : x.1 = e.1
    · have hee : x' = e := by
        rw [h1] at hxe
        exact map_inj h.key hx' he hxe
      subst hee
      rw [blk_set q4, h3 hxe]
      rfl
    · have hx4 := h4 hxe
      rw [blk_far _ (fun hbb => hxe (by rw [h1]; exact congrArg (fun e => e.1) (map_inj h.nod hx' he hbb))), q4, hx4]
  · rw [useG_map _ _ _ fun _ _ _ _ => rfl]; exact h.nod
  · rw [useG_map _ _ _ fun _ _ _ _ => rfl]; exact h.key
theorem GSt.used_gf {H0 C A M0 k N : Nat} {gd : GD} {w : World} (h : GSt H0 C A M0 gd k w) {e : Int × Bool × Nat} (he : e ∈ gd) : GF H0 M0 N w (w.setCell ⟨e.2.2, 2, none⟩ (.bool true)) := by
  obtain ⟨hh, _, _, p0, hb⟩ := h.lab e he
  exact (GF.refl _ _ _ _).setCell hh (.inr (.inr ⟨_, _, _, hb, by simp⟩)) _
theorem sget_kvG {gd : GD} (hr : ∀ e ∈ gd, 1 ≤ e.1 ∧ e.1 ≤ 9) {n : Int} (h1 : -1 ≤ n) (h2 : n ≤ 9) : sget (kvG gd) (nm n) = (gd.find? fun e => e.1 == n).map fun e => .iface 108 (.pointer (some ⟨e.2.2, 0, none⟩)) := by
  induction gd with
  | nil => rfl
  | cons e gd ih =>
    have he := hr e (by simp)
    have ih := ih fun x hx => hr x (by simp [hx])
    by_cases hn : e.1 = n
    · subst hn
      simp [sget, kvG]
    · have hb : (e.1 == n) = false := by simpa using hn
      have : nm e.1 ≠ nm n := nm_ne he.1 he.2 h1 h2 hn
      have ih2 : sget (kvG gd) (nm n) = _ := ih
      rw [List.find?_cons_of_neg (by simpa using hn)]
      rw [← ih2]
      show (List.find? _ ((nm e.1, _) :: kvG gd)).map Prod.snd = _
      rw [List.find?_cons_of_neg (by simpa using this)]
      rfl
end Go.Proofs.YtpodifbgfcclbaaGreatDoor
