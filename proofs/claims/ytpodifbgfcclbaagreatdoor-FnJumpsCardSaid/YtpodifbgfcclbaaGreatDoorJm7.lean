/- A label is put into its block; is a jump among those that a declaration has made bad? -/
import Derived.Test.YtpodifbgfcclbaaGreatDoorJm5
set_option linter.unusedVariables false
set_option linter.unusedSimpArgs false
namespace Go.Proofs.YtpodifbgfcclbaaGreatDoor
open Go.RowKit
attribute [local go_sem] Nat.lt_add_one_of_lt

theorem map_nil (w : World) : Sem.run Tryz.prog (binOp BinOp.eql 157 (Value.map none) (Value.map none)) w = .ok (.bool true) w := by kernel_rfl
theorem map_some (m : Nat) (w : World) : Sem.run Tryz.prog (binOp BinOp.eql 157 (Value.map (some m)) (Value.map none)) w = .ok (.bool false) w := by kernel_rfl
set_option maxRecDepth 100000 in
set_option maxHeartbeats 1000000 in
theorem binsert_any (H0 M0 b s i : Nat) (p q : Value) (lm : Option Nat) (labs : List Int) (n : Int) (w : World) (hb : w.heap[b]? = some (.cells #[p, q, .map lm] 159)) (hlm : LM w H0 M0 w.heap.size lm labs) (h1 : 1 ≤ n) (h2 : n ≤ 9) (hn : ¬ n ∈ labs)
    (hs : w.cell? ⟨s, 0, none⟩ = some (.pointer (some ⟨i, 0, none⟩))) (hi : w.cell? ⟨i, 1, none⟩ = some (.string (nm n))) (hsz : H0 ≤ w.heap.size) (hM : M0 < w.heap.size) :
    Calls Tryz.prog 83 #[.pointer (some ⟨b, 0, none⟩), .pointer (some ⟨s, 0, none⟩)] w fun e w' => e = .returned (.tuple #[]) ∧ (∃ lm', w'.heap[b]? = some (.cells #[p, q, .map lm'] 159) ∧ LM w' H0 M0 w'.heap.size lm' (labs ++ [n])) ∧
      w'.os = w.os ∧ w'.tape = w.tape ∧ w'.output = w.output ∧ w.heap.size ≤ w'.heap.size ∧ ∀ j, j < w.heap.size → j ≠ b → some j ≠ lm → w'.heap[j]? = w.heap[j]? := by
  have hbl : b < w.heap.size := (Array.getElem?_eq_some_iff.1 hb).1
  have hcb : ∀ o, w.cell? ⟨b, o, none⟩ = _ := blk_cell hb
  have hfb : ∀ o, w.frozen? ⟨b, o, none⟩ = false := blk_frz hb
  have hsl := World.block_lt_of_cell? w _ hs
  have hil := World.block_lt_of_cell? w _ hi
  have hmm := @run_makeMap Tryz.prog
  have hq1 := map_nil
  have hq2 := map_some
  obtain ⟨hr, hlm⟩ := hlm
  cases lm with
  | none =>
    simp only at hlm
    subst hlm
    have hm0 : SMap ((w.setCell ⟨b, 2, none⟩ (.map (some w.heap.size))).alloc (.map #[] 0)) w.heap.size [] := by
      have := SMap.new (w.setCell ⟨b, 2, none⟩ (.map (some w.heap.size)))
      simpa using this
    obtain ⟨es, clk, hup, hmap⟩ := run_upd 157 156 und157 w.heap.size (nm n) (.pointer (some ⟨s, 0, none⟩)) [] _ hm0 rfl
    have HM := Lib.hid hmap
    clear hmap
    go_enter Tryz.func83, Tryz.ntmps83
    go_wp2_with fail
    go_end0
    have hfar : ∀ j, j < w.heap.size → j ≠ b → (setObj ((w.setCell ⟨b, 2, none⟩ (.map (some w.heap.size))).alloc (.map #[] 0)) w.heap.size (.map es clk)).heap[j]? = w.heap[j]? := fun j q1 q2 =>
      (setObj_heap _ _ _ _ (by omega)).trans ((Below.heap_alloc _ _ _ (by simp; omega)).trans (blk_far _ q2))
    refine ⟨rfl, ⟨some w.heap.size, ?_, fun l hl => by simp at hl; omega, hsz, by rw [setObj_size]; simp, by omega, [(n, s)], rfl, HM.out⟩, rfl, rfl, rfl, by rw [setObj_size]; simp, fun j q1 q2 => hfar j q1 q2⟩
    refine (setObj_heap _ _ _ _ (by omega)).trans ((Below.heap_alloc _ _ _ (by simp; omega)).trans ?_)
    rw [blk_set hb]; rfl
  | some m =>
    obtain ⟨g1, g2, g3, ks, rfl, hm0⟩ := hlm
    have hget : sget (ks.map fun x => (nm x.1, Value.pointer (some ⟨x.2, 0, none⟩))) (nm n) = none := by
      rw [sget_ks hr (by omega) h2]
      cases hf : ks.find? (fun x => x.1 == n) with
      | none => rfl
      | some x =>
        exfalso
        have := List.find?_some hf
        exact hn (List.mem_map.2 ⟨x, List.mem_of_find?_eq_some hf, by simpa using this⟩)
    obtain ⟨es, clk, hup, hmap⟩ := run_upd 157 156 und157 m (nm n) (.pointer (some ⟨s, 0, none⟩)) _ _ hm0 hget
    have HM := Lib.hid hmap
    have hbm : b ≠ m := by
      rintro rfl
      obtain ⟨es', clk', hh, _⟩ := hm0
      rw [hb] at hh; cases hh
    clear hmap
    go_enter Tryz.func83, Tryz.ntmps83
    go_wp2_with fail
    go_end0
    refine ⟨rfl, ⟨some m, ?_, fun l hl => ?_, g1, by rw [setObj_size]; exact g2, g3, ks ++ [(n, s)], by simp, by simpa using HM.out⟩, rfl, rfl, rfl, by rw [setObj_size]; exact Nat.le_refl _, fun j q1 q2 q3 => setObj_heap _ _ _ _ (fun e => q3 (by rw [e]))⟩
    · rw [setObj_heap _ _ _ _ hbm]; exact hb
    · rcases List.mem_append.1 hl with hl | hl
      · exact hr l hl
      · simp at hl; omega
theorem info103 : ∃ j, Tryz.prog.info? 103 = some j ∧ j.size = 3 := by
  have h : (Tryz.prog.info? 103).map (fun j => j.size) = some 3 := by kernel_rfl
  cases hj : Tryz.prog.info? 103 with
  | none => rw [hj] at h; cases h
  | some j => rw [hj] at h; exact ⟨j, rfl, by simpa using h⟩
theorem und95 : Tryz.prog.underlying 95 = some (.pointer 103) := by kernel_rfl
theorem run_eql95 (a b : Nat) (w : World) (ha : Own w a 103) (hb : Own w b 103) :
    (binOp .eql 95 (.pointer (some ⟨a, 0, none⟩)) (.pointer (some ⟨b, 0, none⟩))).run Tryz.prog w = .ok (.bool (a == b)) w := by
  obtain ⟨j, hj, hs⟩ := info103
  obtain ⟨ca, ha⟩ := ha
  obtain ⟨cb, hb⟩ := hb
  have hp := und95
  by_cases h : a = b
  · subst h
    have h : ∀ d : Nat, (Op.equalIn (d + 1) 95 (.pointer (some ⟨a, 0, none⟩)) (.pointer (some ⟨a, 0, none⟩))).run Tryz.prog w = .ok true w := fun d => by
      simp [Op.equalIn, run_underlying hp, sizeOf, typeInfo, hj, run_sameAddr_same]
    simp [binOp, Op.equal, Op.maxDepth, h 9999]
  · have hne : (⟨a, 0, none⟩ : Addr) ≠ ⟨b, 0, none⟩ := by simp [h]
    have h2 : ∀ d : Nat, (Op.equalIn (d + 1) 95 (.pointer (some ⟨a, 0, none⟩)) (.pointer (some ⟨b, 0, none⟩))).run Tryz.prog w = .ok false w := fun d => by
      simp [Op.equalIn, run_underlying hp, sizeOf, typeInfo, hj, hs, run_sameAddr_other w hne ha hb]
    have h3 : (a == b) = false := by simpa using h
    simp [binOp, Op.equal, Op.maxDepth, h2 9999, h3]
end Go.Proofs.YtpodifbgfcclbaaGreatDoor

/- Jumps ahead: rows of pointers. -/
set_option linter.unusedVariables false
set_option linter.unusedSimpArgs false
namespace Go.Proofs.YtpodifbgfcclbaaGreatDoor
open Go.RowKit
attribute [local go_sem] Nat.lt_add_one_of_lt

theorem row_form {w : World} {base e n : Nat} {v : Value} {xs : List Value} (h : w.ownsRow base e 1 v n xs) : ∃ a cap, v = .slice a n cap ∧ n ≤ cap ∧ cap ≤ maxLen := by
  rcases h.2 with ⟨rfl, rfl⟩ | ⟨g, cap, cur, rfl, _, _, h1, h2, _⟩
  · exact ⟨none, 0, rfl, Nat.le_refl _, Nat.zero_le _⟩
  · exact ⟨_, cap, rfl, h1, h2⟩
theorem row_at {w : World} {base e n : Nat} {a : Option Addr} {cap : Nat} {xs : List Value} (h : w.ownsRow base e 1 (.slice a n cap) n xs) {i : Nat} (hi : i < n) : ∃ g, a = some ⟨g, 0, none⟩ ∧ g < w.heap.size ∧ w.cell? ⟨g, i, none⟩ = xs[i]? ∧ w.frozen? ⟨g, i, none⟩ = false := by
  rcases h.2 with ⟨h1, rfl⟩ | ⟨g, cap', cur, h1, _, h2, h3, h4, h5, h6⟩
  · omega
  · cases h1
    refine ⟨g, rfl, (Array.getElem?_eq_some_iff.1 h2).1, ?_, blk_frz h2 i⟩
    rw [blk_cell h2, ← h6, List.getElem?_take, if_pos (by omega)]
    simp
def hasN (bs : List Nat) (a : Nat) : Bool := bs.contains a
def ptrs (l : List Nat) : List Value := l.map fun a => .pointer (some ⟨a, 0, none⟩)
set_option maxRecDepth 100000 in
set_option maxHeartbeats 1000000 in
theorem contains_any (base : Nat) (bs : List Nat) (v : Value) (a : Nat) (w : World) (h : w.ownsRow base 95 1 v bs.length (ptrs bs)) (ho : ∀ b ∈ bs, Own w b 103) (ha : Own w a 103) (hlen : bs.length ≤ 9223372036854775807) :
    Calls Tryz.prog 74 #[v, .pointer (some ⟨a, 0, none⟩)] w fun e w' => e = .returned (.bool (hasN bs a)) ∧ w' = w := by
  obtain ⟨A, cap, rfl, _, _⟩ := row_form h
  have HR := Lib.hid h
  have HO := Lib.hid ho
  have HA := Lib.hid ha
  clear h ho ha
  go_enter Tryz.func74, Tryz.ntmps74
  go_wp2_with fail
  go_loopg [9] bs.length (fun g vi wr => wr = w ∧ ∃ i : Nat, i + g = bs.length ∧ vi = .int .i64 i ∧ (bs.take i).contains a = false)
  case atStart => exact ⟨rfl, 0, by omega, rfl, by simp⟩
  case round =>
    obtain ⟨rfl, i, hi, rfl, hcn⟩ := hrel
    by_cases hlt : i < bs.length
    · obtain ⟨g, rfl, hg, hc0, hf0⟩ := row_at HR.out hlt
      obtain ⟨b, hb⟩ : ∃ b, bs[i]? = some b := ⟨_, List.getElem?_eq_getElem hlt⟩
      have hc : wr.cell? ⟨g, i, none⟩ = some (.pointer (some ⟨b, 0, none⟩)) := by rw [hc0, ptrs, List.getElem?_map, hb]; rfl
      clear hc0 hf0
      have heq := run_eql95 b a wr (HO.out b (List.mem_of_getElem? hb)) HA.out
      have hltI : (i : Int) < (bs.length : Int) := by omega
      have hi0 : (0 : Int) ≤ (i : Int) := by omega
      have HN := Lib.hid hcn
      have HB := Lib.hid hb
      clear hcn hb
      by_cases hba : b = a
      · subst hba
        rw [show (b == b) = true by simp] at heq
        go_wp2_with fail
        go_ret
        refine ⟨?_, rfl⟩
        have : hasN bs b = true := by rw [hasN, List.contains_iff_mem]; exact List.mem_of_getElem? HB.out
        rw [this]; rfl
      · have hbb : (b == a) = false := by simpa using hba
        rw [hbb] at heq
        go_wp2_with fail
        go_roundg (gk - 1)
        case measure => omega
        refine ⟨rfl, i + 1, by omega, by simp, ?_⟩
        have h1 := HN.out
        rw [List.take_add_one, HB.out]
        have hba' : a ≠ b := fun e => hba e.symm
        simp at h1 ⊢
        exact ⟨h1, hba'⟩
    · have hltI : ¬ (i : Int) < (bs.length : Int) := by omega
      have HN := Lib.hid hcn
      clear hcn
      go_wp2_with fail
      go_ret
      refine ⟨?_, rfl⟩
      have h9 := HN.out
      rw [List.take_of_length_le (by omega)] at h9
      have h8 : hasN bs a = false := h9
      rw [h8]; rfl
end Go.Proofs.YtpodifbgfcclbaaGreatDoor

/- A block's own state: its jumps ahead. -/
set_option linter.unusedVariables false
set_option linter.unusedSimpArgs false
namespace Go.Proofs.YtpodifbgfcclbaaGreatDoor
open Go.RowKit
attribute [local go_sem] Nat.lt_add_one_of_lt

theorem row_cut {w : World} {base e n : Nat} {a : Option Addr} {cap : Nat} {xs : List Value} (h : w.ownsRow base e 1 (.slice a n cap) n xs) {i : Nat} (hi : i ≤ n) : w.ownsRow base e 1 (.slice a i cap) i (xs.take i) := by
  have hl := h.1
  refine ⟨by rw [List.length_take]; omega, ?_⟩
  rcases h.2 with ⟨h1, rfl⟩ | ⟨g, cap', cur, h1, h2, h3, h4, h5, h6, h7⟩
  · cases h1
    obtain rfl : i = 0 := by omega
    exact .inl ⟨rfl, rfl⟩
  · cases h1
    refine .inr ⟨g, cap, cur, rfl, h2, h3, by omega, h5, h6, ?_⟩
    rw [← h7, List.take_take]
    congr 1
    omega
/-- One row behind another. -/
theorem run_append_rows {P : Program} (w : World) (t ty : TypeId) (base : Nat) (e : TypeId) (i : TypeInfo) (z : Value) (bytes : Nat) (ht : P.underlying t = some (.slice e)) (hi : P.info? e = some i) (hz : i.zero = some z)
    (hsize : i.size = 1) (hby : i.bytes = bytes) (hzs : z.cells.size = 1) (v : Value) (n : Nat) (xs : List Value) (hown : w.ownsRow base e 1 v n xs)
    (base' : Nat) (vx : Value) (m : Nat) (news : List Value) (hx : w.ownsRow base' e 1 vx m news) (h1 : ∀ u ∈ news, u.oneCell' = true)
    (h63 : n + m ≤ maxLen) (hbytes : (n + m) * bytes ≤ 140737488355328) (hbase : base ≤ w.heap.size) :
    ∃ v' w', (Builtin.append_ #[t, t] ty #[v, vx]).run P w = .ok v' w' ∧ w'.ownsRow base e 1 v' (n + m) (xs ++ news) ∧ w.grownBy w' v.ownBlock ∧ (v'.ownBlock = v.ownBlock ∨ v'.ownBlock = some w.heap.size) := by
  rcases hx.2 with ⟨rfl, rfl⟩ | ⟨g, cap, cur, rfl, q1, q2, q3, q4, q5, q6⟩
  · have hn : news = [] := List.eq_nil_of_length_eq_zero (by simpa using hx.1)
    subst hn
    have hrun := run_append_owned_none (P := P) w base t ty e i 1 ht hi v n xs hown
    exact ⟨v, w, hrun, by simpa using hown, World.grownBy.refl _ _, .inl rfl⟩
  · obtain ⟨v', w', hr, h2, h3, _, h5⟩ := run_append_own_at (P := P) w base t ty e i z 1 bytes ht hi hz hsize hby hzs (by omega) v n xs hown ⟨g, 0, none⟩ m cap news hx.1 (hx.cells (g := g) rfl) h1 h63 hbytes hbase
    exact ⟨v', w', hr, h2, h3, h5⟩
theorem step_rows {P : Program} (w : World) {ops : Array Oper} {o : Oper} {a : Act} {K : Act → World → Prop} {Q : Exit → Act → World → Prop} {E : Prop} (hgd : o.guard = none) (s x : Operand) (t : TypeId)
    (ho : o.op = .call { callee := .builtin .append, args := #[s, x], argTypes := #[t, t] })
    (base : Nat) (e : TypeId) (i : TypeInfo) (z : Value) (bytes : Nat) (ht : P.underlying t = some (.slice e)) (hi : P.info? e = some i) (hz : i.zero = some z)
    (hsize : i.size = 1) (hby : i.bytes = bytes) (hzs : z.cells.size = 1) (v : Value) (n : Nat) (xs : List Value) (hs : a.eval s = v) (hown : w.ownsRow base e 1 v n xs)
    (base' : Nat) (vx : Value) (m : Nat) (news : List Value) (hxv : a.eval x = vx) (hx : w.ownsRow base' e 1 vx m news) (h1 : ∀ u ∈ news, u.oneCell' = true)
    (h63 : n + m ≤ maxLen) (hbytes : (n + m) * bytes ≤ 140737488355328) (hbase : base ≤ w.heap.size)
    (h : ∀ v' w', w'.ownsRow base e 1 v' (n + m) (xs ++ news) → w.grownBy w' v.ownBlock → (v'.ownBlock = v.ownBlock ∨ v'.ownBlock = some w.heap.size) → K (a.put o.dst v') w') :
    if Region.wanted o (yielded ops a.tmps) = true then Oper.wp P o a w K Q else E := by
  have hw : Region.wanted o (yielded ops a.tmps) = true := by simp [Region.wanted, hgd]
  rw [if_pos hw]
  obtain ⟨v', w', hr, h2, h3, h4⟩ := run_append_rows (P := P) w t o.type base e i z bytes ht hi hz hsize hby hzs v n xs hown base' vx m news hx h1 h63 hbytes hbase
  unfold Oper.wp execOp
  simp only [ho, resolve, invoke, builtin, Sem.run_bind, Sem.run_pure, Result.andThen_ok, List.map_toArray, List.map_cons, List.map_nil, hs, hxv, hr]
  exact h v' w' h2 h3 h4
theorem info95 : ∃ j, Tryz.prog.info? 95 = some j ∧ j.zero = some (.pointer none) ∧ j.size = 1 ∧ j.bytes = 8 := by
  have h : (Tryz.prog.info? 95).map (fun j => (j.zero, j.size, j.bytes)) = some (some (.pointer none), 1, 8) := by kernel_rfl
  cases hj : Tryz.prog.info? 95 with
  | none => rw [hj] at h; cases h
  | some j => rw [hj] at h; simp only [Option.map_some, Option.some.injEq, Prod.mk.injEq] at h; exact ⟨j, rfl, h.1, h.2.1, h.2.2⟩
theorem und93 : Tryz.prog.underlying 93 = some (.slice 95) := by kernel_rfl
theorem ptrs_one {l : List Nat} : ∀ u ∈ ptrs l, u.oneCell' = true := by
  intro u hu
  obtain ⟨a, _, rfl⟩ := List.mem_map.1 hu
  rfl
/-- What a block knows of its jumps ahead: fs: the nodes; bs: those behind which a variable is declared. -/
def LV (n : Nat) (fs bs : List Nat) (w : World) : Prop :=
  ∃ p vf vb, w.heap[n + 4]? = some (.cells #[.int .i64 p] 45) ∧ (bs ≠ [] → p ≠ 0) ∧ w.heap[n + 5]? = some (.cells #[vf] 93) ∧ w.ownsRow n 95 1 vf fs.length (ptrs fs) ∧
    w.heap[n + 6]? = some (.cells #[vb] 93) ∧ w.ownsRow n 95 1 vb bs.length (ptrs bs) ∧ (vf.ownBlock = none ∨ vf.ownBlock ≠ vb.ownBlock)
/-- Old blocks of a frame that a declaration may change. -/
def VF (n : Nat) (w w' : World) : Prop := w'.os = w.os ∧ w'.tape = w.tape ∧ w'.output = w.output ∧ w.heap.size ≤ w'.heap.size ∧
  ∀ j, j < w.heap.size → j ≠ n + 4 → j ≠ n + 5 → j ≠ n + 6 → (n ≤ j → ∀ cs f, w.heap[j]? ≠ some (.cells cs 95 f)) → w'.heap[j]? = w.heap[j]?
theorem rec_done {n : Nat} {fs : List Nat} {p p0 : Int} {w w1 : World} {vf vb v0 v' : Value} (hp : p ≠ 0) (hn : n ≤ w.heap.size) (h4 : w.heap[n + 4]? = some (.cells #[.int .i64 p0] 45)) (h5 : w.heap[n + 5]? = some (.cells #[vf] 93)) (hf : w.ownsRow n 95 1 vf fs.length (ptrs fs))
    (h6 : w.heap[n + 6]? = some (.cells #[vb] 93)) (hd : vf.ownBlock = none ∨ vf.ownBlock ≠ v0.ownBlock) (hb : w.ownsRow n 95 1 v0 0 []) (ho : w1.ownsRow n 95 1 v' fs.length (ptrs fs)) (hg : (w.setCell ⟨n + 4, 0, none⟩ (.int .i64 p)).drew.grownBy w1 v0.ownBlock)
    (ha : v'.ownBlock = v0.ownBlock ∨ v'.ownBlock = some (w.setCell ⟨n + 4, 0, none⟩ (.int .i64 p)).drew.heap.size) :
    LV n fs fs (w1.setCell ⟨n + 6, 0, none⟩ v') ∧ VF n w (w1.setCell ⟨n + 6, 0, none⟩ v') := by
  have l4 : n + 4 < w.heap.size := (Array.getElem?_eq_some_iff.1 h4).1
  have l5 : n + 5 < w.heap.size := (Array.getElem?_eq_some_iff.1 h5).1
  have l6 : n + 6 < w.heap.size := (Array.getElem?_eq_some_iff.1 h6).1
  have hne : ∀ {q : Nat} {cs : Array Value} {T : Nat} {f : Nat × Nat}, w.heap[q]? = some (.cells cs T f) → T ≠ 95 → some q ≠ v0.ownBlock := fun hq hT e => by
    obtain ⟨_, _, cs', h3⟩ := row_blk hb e.symm
    rw [hq] at h3; cases h3; exact hT rfl
  have hk : ∀ q, q < w.heap.size → q ≠ n + 4 → some q ≠ v0.ownBlock → w1.heap[q]? = w.heap[q]? := fun q h1 h2 h3 => (hg.block q (by simpa using h1) h3).trans (blk_far _ h2)
  have h6' : w1.heap[n + 6]? = some (.cells #[vb] 93) := (hk _ l6 (by omega) (hne h6 (by decide))).trans h6
  have h5' : w1.heap[n + 5]? = some (.cells #[vf] 93) := (hk _ l5 (by omega) (hne h5 (by decide))).trans h5
  have h4' : w1.heap[n + 4]? = some (.cells #[.int .i64 p] 45) := (hg.block _ (by simpa using l4) (hne h4 (by decide))).trans (by
    show (w.setCell ⟨n + 4, 0, none⟩ (.int .i64 p)).heap[n + 4]? = _
    rw [blk_set h4]; rfl)
  have hf1 : w1.ownsRow n 95 1 vf fs.length (ptrs fs) := row_keep hf fun g e => by
    obtain ⟨r1, r2, cs, r3⟩ := row_blk hf e
    refine hk g r2 ?_ ?_
    · rintro rfl; rw [h4] at r3; cases r3
    · rcases hd with hd | hd
      · rw [hd] at e; cases e
      · rw [← e]; exact hd
  have far6 : ∀ {v : Value} {k : Nat} {xs : List Value}, w1.ownsRow n 95 1 v k xs → (w1.setCell ⟨n + 6, 0, none⟩ v').ownsRow n 95 1 v k xs := fun h => row_keep h fun g e => blk_far _ (by
    rintro rfl
    obtain ⟨_, _, cs, r3⟩ := row_blk h e
    rw [h6'] at r3; cases r3)
  refine ⟨⟨p, vf, v', (blk_far _ (by simp)).trans h4', fun _ => hp, (blk_far _ (by simp)).trans h5', far6 hf1, by rw [blk_set h6']; rfl, far6 ho, ?_⟩, hg.os, hg.tape, hg.output, by have := hg.size; simp at this ⊢; exact this, fun q h1 h2 h3 h4 h5 => ?_⟩
  · rcases hd with hd | hd
    · exact .inl hd
    · right
      rcases ha with ha | ha
      · rw [ha]; exact hd
      · rw [ha]
        intro e
        have := (row_blk hf e).2.1
        simp at this
  · rw [blk_far _ h4]
    refine hk q h1 h2 fun e => ?_
    obtain ⟨r1, _, cs, r3⟩ := row_blk hb e.symm
    exact h5 r1 cs _ r3
set_option maxRecDepth 100000 in
set_option maxHeartbeats 2000000 in
theorem recordVar_any (n : Nat) (fs bs : List Nat) (p : Int) (w : World) (h : LV n fs bs w) (hp : p ≠ 0) (hlen : fs.length ≤ 100000) (hn : n ≤ w.heap.size) :
    Calls Tryz.prog 71 #[.int .i64 p, .pointer (some ⟨n + 4, 0, none⟩), .pointer (some ⟨n + 6, 0, none⟩), .pointer (some ⟨n + 5, 0, none⟩)] w fun e w' => e = .returned (.tuple #[]) ∧ LV n fs fs w' ∧ VF n w w' := by
  obtain ⟨p0, vf, vb, h4, _, h5, hf, h6, hb, hd⟩ := h
  obtain ⟨j, hj, hz, hz1, hz2⟩ := info95
  have l4 : n + 4 < w.heap.size := (Array.getElem?_eq_some_iff.1 h4).1
  have l5 : n + 5 < w.heap.size := (Array.getElem?_eq_some_iff.1 h5).1
  have l6 : n + 6 < w.heap.size := (Array.getElem?_eq_some_iff.1 h6).1
  have c4 : ∀ o, w.cell? ⟨n + 4, o, none⟩ = _ := blk_cell h4
  have f4 : ∀ o, w.frozen? ⟨n + 4, o, none⟩ = false := blk_frz h4
  have c5 : ∀ o, w.cell? ⟨n + 5, o, none⟩ = _ := blk_cell h5
  have c6 : ∀ o, w.cell? ⟨n + 6, o, none⟩ = _ := blk_cell h6
  have f6 : ∀ o, w.frozen? ⟨n + 6, o, none⟩ = false := blk_frz h6
  obtain ⟨ab, capb, rfl, _, _⟩ := row_form hb
  have hb0 := row_cut hb (Nat.zero_le _)
  rw [List.take_zero] at hb0
  have hd' : vf.ownBlock = none ∨ vf.ownBlock ≠ (Value.slice ab 0 capb).ownBlock := by
    rcases hd with hd | hd
    · exact .inl hd
    · right; cases ab <;> exact hd
  obtain ⟨v0, hv0⟩ : ∃ v0, v0 = Value.slice ab 0 capb := ⟨_, rfl⟩
  rw [← hv0] at hb0 hd'
  have HV := Lib.hid hv0
  have HF := Lib.hid hf
  have HB0 := Lib.hid hb0
  have H4 := Lib.hid h4
  have H5 := Lib.hid h5
  have H6 := Lib.hid h6
  clear hf hb0 h4 h5 h6
  have hW : ∀ {g : Nat}, (∃ cs, w.heap[g]? = some (.cells cs 95 (0, 0))) → (w.setCell ⟨n + 4, 0, none⟩ (.int .i64 p)).heap[g]? = w.heap[g]? := fun ⟨cs, hg⟩ => blk_far _ (by rintro rfl; rw [H4.out] at hg; cases hg)
  have HF1 := Lib.hid (row_keep (w' := w.setCell ⟨n + 4, 0, none⟩ (.int .i64 p)) HF.out fun g hg => hW (row_blk HF.out hg).2.2)
  have HB1 := Lib.hid (row_keep (w' := w.setCell ⟨n + 4, 0, none⟩ (.int .i64 p)) HB0.out fun g hg => hW (row_blk HB0.out hg).2.2)
  have hne : ∀ {q : Nat} {cs : Array Value} {T : Nat} {f : Nat × Nat}, w.heap[q]? = some (.cells cs T f) → T ≠ 95 → some q ≠ v0.ownBlock := fun hq hT e => by
    obtain ⟨_, _, cs', h3⟩ := row_blk HB0.out e.symm
    rw [hq] at h3; cases h3; exact hT rfl
  have hne6 := hne H6.out (by decide)
  have hne5 := hne H5.out (by decide)
  have hne4 := hne H4.out (by decide)
  have hab : ab = none ∨ ∃ gb, ab = some ⟨gb, 0, none⟩ := by
    rcases HB0.out.2 with ⟨h1, _⟩ | ⟨g, cap', cur, h1, _⟩ <;> rw [hv0] at h1
    · cases h1; exact .inl rfl
    · cases h1; exact .inr ⟨g, rfl⟩
  clear hv0
  rcases hab with rfl | ⟨gb, rfl⟩
  all_goals
    go_enter Tryz.func71, Tryz.ntmps71
    go_wp2_with fail
    go_region_law (first
      | (refine step_rows _ (by rfl) _ _ 93 (by rfl) n 95 j _ 8 und93 hj hz hz1 hz2 rfl v0 0 _ (by rw [HV.out]; rfl) (by exact HB1.out.drew) n vf fs.length (ptrs fs) (by rfl) (by exact HF1.out.drew) ptrs_one (by unfold maxLen; omega) (by omega) (by simp; omega) ?_; intro v' w1 hown1 hgrow hat
         obtain ⟨a', cap', rfl, _, _⟩ := row_form hown1
         have hc6 : w1.cell? ⟨n + 6, 0, none⟩ = some (.slice _ bs.length capb) := (hgrow.cell_far ⟨n + 6, 0, none⟩ (by simp; omega) hne6).trans ((sc_other (by simp)).trans (c6 0))
         have hf6 : w1.frozen? ⟨n + 6, 0, none⟩ = false := (hgrow.frozen_far ⟨n + 6, 0, none⟩ (by simp; omega) hne6).trans ((World.frozen?_setCell _ _ _ _).trans (f6 0))))
  all_goals
    have HO := Lib.hid hown1
    have HG := Lib.hid hgrow
    have HA := Lib.hid hat
    clear hown1 hgrow hat
    go_wp2_with fail
    go_end0
    refine ⟨rfl, ?_⟩
    have HO2 := HO.out
    have HA2 := HA.out
    rw [Nat.zero_add, List.nil_append] at HO2
    rw [Nat.zero_add] at HA2
    exact rec_done hp hn H4.out H5.out HF.out H6.out hd' HB0.out HO2 HG.out HA2
set_option maxRecDepth 100000 in
set_option maxHeartbeats 2000000 in
/-- Does a jump go over a declaration? -/
theorem jumpsOver_any (n : Nat) (fs bs : List Nat) (a : Nat) (w : World) (h : LV n fs bs w) (ho : ∀ b ∈ bs, Own w b 103) (ha : Own w a 103) (hlen : bs.length ≤ 9223372036854775807) :
    Calls Tryz.prog 72 #[.pointer (some ⟨a, 0, none⟩), .pointer (some ⟨n + 4, 0, none⟩), .pointer (some ⟨n + 6, 0, none⟩)] w fun e w' => e = .returned (.bool (hasN bs a)) ∧ w' = w := by
  obtain ⟨p0, vf, vb, h4, hp, h5, hf, h6, hb, hd⟩ := h
  have l4 : n + 4 < w.heap.size := (Array.getElem?_eq_some_iff.1 h4).1
  have l6 : n + 6 < w.heap.size := (Array.getElem?_eq_some_iff.1 h6).1
  have c4 : ∀ o, w.cell? ⟨n + 4, o, none⟩ = _ := blk_cell h4
  have c6 : ∀ o, w.cell? ⟨n + 6, o, none⟩ = _ := blk_cell h6
  have HB := Lib.hid hb
  have HP := Lib.hid hp
  clear hb hf hd h4 h5 h6 hp
  by_cases hz : p0 = 0
  · subst hz
    go_enter Tryz.func72, Tryz.ntmps72
    go_wp2_with fail
    refine (isValid_any 0 w).mono ?_
    rintro e w1 ⟨rfl, hw1⟩
    rw [hw1]
    go_wp2_with fail
    go_ret
    refine ⟨?_, rfl⟩
    have : bs = [] := by
      by_cases hb : bs = []
      · exact hb
      · exact absurd rfl (HP.out hb)
    rw [this]; rfl
  · have hz' : (p0 != 0) = true := by simpa using hz
    go_enter Tryz.func72, Tryz.ntmps72
    go_wp2_with fail
    refine (isValid_any p0 w).mono ?_
    rintro e w1 ⟨rfl, hw1⟩
    rw [hw1, hz']
    go_wp2_with fail
    refine (contains_any n bs vb a w HB.out ho ha hlen).mono ?_
    rintro e w2 ⟨rfl, hw2⟩
    rw [hw2]
    go_wp2_with fail
    go_ret
    exact ⟨rfl, rfl⟩
end Go.Proofs.YtpodifbgfcclbaaGreatDoor
