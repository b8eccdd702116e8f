/- The maker of trees in memory, what its small functions leave. -/
import Derived.Test.YtpodifbgfcclbaaGreatDoorMap1
import Derived.Test.YtpodifbgfcclbaaGreatDoorShelf
import Derived.Test.YtpodifbgfcclbaaGreatDoorVal1
import Derived.Test.YtpodifbgfcclbaaGreatDoorAst1
import Derived.Lib.AppendIntMem
set_option linter.unusedVariables false
set_option linter.unusedSimpArgs false
namespace Go.Proofs.YtpodifbgfcclbaaGreatDoor
open Go.RowKit
attribute [local go_sem] Nat.lt_add_one_of_lt

/-- Below block H the world is as it was, but for the blocks M and R. -/
structure MF (H M R : Nat) (w w' : World) : Prop where
  os : w'.os = w.os
  tape : w'.tape = w.tape
  output : w'.output = w.output
  size : w.heap.size ≤ w'.heap.size
  block : ∀ k, k < H → k ≠ M → k ≠ R → w'.heap[k]? = w.heap[k]?
theorem MF.refl (H M R : Nat) (w : World) : MF H M R w w := ⟨rfl, rfl, rfl, Nat.le_refl _, fun _ _ _ _ => rfl⟩
theorem MF.trans {H M R : Nat} {a b c : World} (h : MF H M R a b) (k : MF H M R b c) : MF H M R a c :=
  ⟨k.os.trans h.os, k.tape.trans h.tape, k.output.trans h.output, Nat.le_trans h.size k.size, fun i hi h1 h2 => (k.block i hi h1 h2).trans (h.block i hi h1 h2)⟩
theorem MF.mono {H H' M R : Nat} {a b : World} (h : MF H M R a b) (hH : H' ≤ H) : MF H' M R a b := ⟨h.os, h.tape, h.output, h.size, fun i hi => h.block i (by omega)⟩
theorem MF.of_below {H M R : Nat} {a b : World} (h : Below H a b) : MF H M R a b := ⟨h.os, h.tape, h.output, h.size, fun i hi _ _ => h.block i hi⟩
theorem MF.below {H M R B : Nat} {a b : World} (h : MF H M R a b) (h1 : B ≤ H) (h2 : B ≤ M) (h3 : B ≤ R) : Below B a b := ⟨h.os, h.tape, h.output, h.size, fun i hi => h.block i (by omega) (by omega) (by omega)⟩
theorem MF.alloc {H M R : Nat} {a b : World} (h : MF H M R a b) (hH : H ≤ b.heap.size) (o : Obj) : MF H M R a (b.alloc o) := h.trans (.of_below ((Below.refl _ _).alloc hH o))
theorem MF.setCell {H M R : Nat} {a b : World} (h : MF H M R a b) {p : Addr} (hp : H ≤ p.block) (u : Value) : MF H M R a (b.setCell p u) := h.trans (.of_below ((Below.refl _ _).setCell hp u))
theorem MF.setCellM {H M R : Nat} {a b : World} (h : MF H M R a b) (o : Nat) (u : Value) : MF H M R a (b.setCell ⟨M, o, none⟩ u) :=
  h.trans ⟨rfl, rfl, rfl, by simp [World.setCell], fun k _ hk _ => Below.heap_setCell _ _ _ _ hk⟩
theorem MF.setObj {H M R : Nat} {a b : World} (h : MF H M R a b) (o : Obj) : MF H M R a (setObj b R o) :=
  h.trans ⟨rfl, rfl, rfl, by rw [setObj_size]; exact Nat.le_refl _, fun k _ _ hk => setObj_heap _ _ _ _ hk⟩
theorem MF.drew {H M R : Nat} {a b : World} (h : MF H M R a b) : MF H M R a b.drew := ⟨h.os, h.tape, h.output, h.size, h.block⟩
theorem MF.cell {H M R : Nat} {a b : World} (h : MF H M R a b) {k o : Nat} (hk : k < H) (h1 : k ≠ M) (h2 : k ≠ R) : b.cell? ⟨k, o, none⟩ = a.cell? ⟨k, o, none⟩ := World.cell?_of_block (w := a) (h.block k hk h1 h2)
theorem MF.frozen {H M R : Nat} {a b : World} (h : MF H M R a b) {k o : Nat} (hk : k < H) (h1 : k ≠ M) (h2 : k ≠ R) : b.frozen? ⟨k, o, none⟩ = a.frozen? ⟨k, o, none⟩ := World.frozen?_of_block (w := a) (h.block k hk h1 h2)
theorem MF.own {H M R : Nat} {a b : World} (h : MF H M R a b) {k T : Nat} (hk : k < H) (h1 : k ≠ M) (h2 : k ≠ R) (ho : Own a k T) : Own b k T := ho.imp fun _ e => (h.block k hk h1 h2).trans e
theorem PM.keep {w w' : World} {R : Nat} {ps : List Nat} (h : PM w R ps) (h1 : w'.heap[R]? = w.heap[R]?) (h2 : ∀ c ∈ ps, w'.heap[c]? = w.heap[c]?) : PM w' R ps := by
  obtain ⟨⟨es, clk, g1, g2⟩, g3⟩ := h
  exact ⟨⟨es, clk, h1.trans g1, g2⟩, fun c hc => (g3 c hc).imp fun cs e => (h2 c hc).trans e⟩

/-- The maker at block M, its map at block R, its place p, the calls of panic that it has made; its trees lie from block lo on; all that it was handed lies below block B. -/
structure MS (B lo M R : Nat) (p : Int) (ps : List Nat) (w : World) : Prop where
  blk : w.heap[M]? = some (.cells #[.int .i64 p, .map (some R)] 47 (0, 0))
  pan : PM w R ps
  bM : B ≤ M
  bR : B ≤ R
  ne : M ≠ R
  lM : M < lo
  lR : R < lo
  lsz : lo ≤ w.heap.size
  pos : 0 ≤ p
  psn : ∀ q ∈ ps, lo ≤ q ∧ q < w.heap.size
  tab : Lib.TabBelow Tryz.prog B w "internal/strconv.uint64pow10" .u64 Lib.pow10Tab
section
variable {B lo M R : Nat} {p : Int} {ps : List Nat} {w w' : World}
theorem MS.szM (h : MS B lo M R p ps w) : M < w.heap.size := by have := h.lM; have := h.lsz; omega
theorem MS.szR (h : MS B lo M R p ps w) : R < w.heap.size := by have := h.lR; have := h.lsz; omega
theorem MS.szB (h : MS B lo M R p ps w) : B ≤ w.heap.size := by have := h.szM; have := h.bM; omega
theorem MS.pos0 (h : MS B lo M R p ps w) : w.cell? ⟨M, 0, none⟩ = some (.int .i64 p) := by simp [World.cell?, h.blk]
theorem MS.map1 (h : MS B lo M R p ps w) : w.cell? ⟨M, 1, none⟩ = some (.map (some R)) := by simp [World.cell?, h.blk]
theorem MS.frz (h : MS B lo M R p ps w) (o : Nat) : w.frozen? ⟨M, o, none⟩ = false := by simp [World.frozen?, h.blk]
theorem MS.keep (h : MS B lo M R p ps w) (hb : Below w.heap.size w w') : MS B lo M R p ps w' where
  blk := (hb.block M h.szM).trans h.blk
  pan := h.pan.keep (hb.block R h.szR) fun c hc => hb.block c (h.psn c hc).2
  bM := h.bM
  bR := h.bR
  ne := h.ne
  lM := h.lM
  lR := h.lR
  lsz := Nat.le_trans h.lsz hb.size
  pos := h.pos
  psn := fun q hq => ⟨(h.psn q hq).1, by have := (h.psn q hq).2; have := hb.size; omega⟩
  tab := h.tab.on (hb.mono h.szB)
theorem MS.alloc (h : MS B lo M R p ps w) (o : Obj) : MS B lo M R p ps (w.alloc o) := h.keep ((Below.refl _ _).alloc (Nat.le_refl _) _)
theorem MS.drew (h : MS B lo M R p ps w) : MS B lo M R p ps w.drew := h.keep (Below.refl _ _).drew
theorem Own.setCell {c T : Nat} {a : Addr} (v : Value) (h : Own w c T) : Own (w.setCell a v) c T := by
  obtain ⟨cs, h⟩ := h
  simp only [Own, World.setCell, Array.getElem?_modify]
  split
  · rw [h]; exact ⟨_, rfl⟩
  · exact ⟨cs, h⟩
theorem MS.setCell (h : MS B lo M R p ps w) {a : Addr} (ha : lo ≤ a.block) (v : Value) : MS B lo M R p ps (w.setCell a v) where
  blk := (Below.heap_setCell _ _ _ _ (by have := h.lM; omega)).trans h.blk
  pan := by
    obtain ⟨⟨es, clk, g1, g2⟩, g3⟩ := h.pan
    exact ⟨⟨es, clk, (Below.heap_setCell _ _ _ _ (by have := h.lR; omega)).trans g1, g2⟩, fun c hc => (g3 c hc).setCell v⟩
  bM := h.bM
  bR := h.bR
  ne := h.ne
  lM := h.lM
  lR := h.lR
  lsz := by have := h.lsz; simpa using this
  pos := h.pos
  psn := fun q hq => by have := h.psn q hq; simpa using this
  tab := h.tab.on ((Below.refl _ _).setCell (by have := h.lM; have := h.bM; omega) _)
/-- The maker goes on to the next place. -/
theorem MS.next (h : MS B lo M R p ps w) (q : Int) (hq : 0 ≤ q) : MS B lo M R q ps (w.setCell ⟨M, 0, none⟩ (.int .i64 q)) where
  blk := by simp [World.setCell, Array.getElem?_modify, h.blk]
  pan := h.pan.keep (Below.heap_setCell _ _ _ _ (by have := h.ne; simp; omega)) fun c hc => Below.heap_setCell _ _ _ _ (by have := (h.psn c hc).1; have := h.lM; simp; omega)
  bM := h.bM
  bR := h.bR
  ne := h.ne
  lM := h.lM
  lR := h.lR
  lsz := by have := h.lsz; simpa using this
  pos := hq
  psn := fun q hq => by have := h.psn q hq; simpa using this
  tab := h.tab.on ((Below.refl _ _).setCell h.bM _)
end

set_option maxHeartbeats 400000 in
theorem at_raw (M : Nat) (p : Int) (w : World) (hc : w.cell? ⟨M, 0, none⟩ = some (.int .i64 p)) (hf : w.frozen? ⟨M, 0, none⟩ = false) (h0 : 0 ≤ p) (h1 : p < 4611686018427387904) :
    Calls Tryz.prog 45 #[.pointer (some ⟨M, 0, none⟩)] w fun e w' => e = .returned (.int .i64 (p + 1)) ∧ w' = w.setCell ⟨M, 0, none⟩ (.int .i64 (p + 1)) := by
  go_enter Tryz.func45, Tryz.ntmps45
  go_wp2
  go_ret
  exact ⟨rfl, rfl⟩
/-- What the maker leaves that goes on by at most c places and hands back v. -/
structure MkTo (B lo M R : Nat) (p : Int) (ps : List Nat) (w : World) (c : Nat) (p' : Int) (ps' : List Nat) (w' : World) : Prop where
  ms : MS B lo M R p' ps' w'
  mf : MF w.heap.size M R w w'
  le : p ≤ p'
  ub : p' ≤ p + c
  new : ∃ ns, ps' = ps ++ ns ∧ ∀ q ∈ ns, w.heap.size ≤ q
theorem MkTo.size {B lo M R : Nat} {p : Int} {ps : List Nat} {w : World} {c : Nat} {p' : Int} {ps' : List Nat} {w' : World} (h : MkTo B lo M R p ps w c p' ps' w') : w.heap.size ≤ w'.heap.size := h.mf.size
theorem MkTo.trans {B lo M R : Nat} {p p1 p2 : Int} {ps ps1 ps2 : List Nat} {w w1 w2 : World} {c d : Nat} (h : MkTo B lo M R p ps w c p1 ps1 w1) (k : MkTo B lo M R p1 ps1 w1 d p2 ps2 w2) : MkTo B lo M R p ps w (c + d) p2 ps2 w2 := by
  obtain ⟨n1, e1, g1⟩ := h.new
  obtain ⟨n2, e2, g2⟩ := k.new
  refine ⟨k.ms, h.mf.trans (k.mf.mono h.size), Int.le_trans h.le k.le, by have := h.ub; have := k.ub; omega, n1 ++ n2, by rw [e2, e1, List.append_assoc], fun q hq => ?_⟩
  rcases List.mem_append.1 hq with hq | hq
  · exact g1 q hq
  · have := g2 q hq; have := h.size; omega
theorem MkTo.more {B lo M R : Nat} {p : Int} {ps : List Nat} {w : World} {c d : Nat} {p' : Int} {ps' : List Nat} {w' : World} (h : MkTo B lo M R p ps w c p' ps' w') (hd : c ≤ d) : MkTo B lo M R p ps w d p' ps' w' := ⟨h.ms, h.mf, h.le, by have := h.ub; omega, h.new⟩
theorem MkTo.refl {B lo M R : Nat} {p : Int} {ps : List Nat} {w : World} (h : MS B lo M R p ps w) : MkTo B lo M R p ps w 0 p ps w := ⟨h, .refl _ _ _ _, Int.le_refl _, by omega, [], by simp, by simp⟩
theorem MkTo.alloc {B lo M R : Nat} {p : Int} {ps : List Nat} {w : World} {c : Nat} {p' : Int} {ps' : List Nat} {w' : World} (h : MkTo B lo M R p ps w c p' ps' w') (o : Obj) : MkTo B lo M R p ps w c p' ps' (w'.alloc o) := ⟨h.ms.alloc o, h.mf.alloc h.size o, h.le, h.ub, h.new⟩
theorem MkTo.drew {B lo M R : Nat} {p : Int} {ps : List Nat} {w : World} {c : Nat} {p' : Int} {ps' : List Nat} {w' : World} (h : MkTo B lo M R p ps w c p' ps' w') : MkTo B lo M R p ps w c p' ps' w'.drew := ⟨h.ms.drew, h.mf.drew, h.le, h.ub, h.new⟩
theorem MkTo.setCell {B lo M R : Nat} {p : Int} {ps : List Nat} {w : World} {c : Nat} {p' : Int} {ps' : List Nat} {w' : World} (h : MkTo B lo M R p ps w c p' ps' w') {a : Addr} (h1 : w.heap.size ≤ a.block) (h2 : lo ≤ a.block) (v : Value) : MkTo B lo M R p ps w c p' ps' (w'.setCell a v) := ⟨h.ms.setCell h2 v, h.mf.setCell h1 v, h.le, h.ub, h.new⟩

theorem at_any (B lo M R : Nat) (p : Int) (ps : List Nat) (w : World) (h : MS B lo M R p ps w) (h1 : p < 4611686018427387904) :
    Calls Tryz.prog 45 #[.pointer (some ⟨M, 0, none⟩)] w fun e w' => e = .returned (.int .i64 (p + 1)) ∧ MkTo B lo M R p ps w 1 (p + 1) ps w' ∧ w'.heap.size = w.heap.size := by
  refine (at_raw M p w h.pos0 (h.frz 0) h.pos h1).mono ?_
  rintro e w' ⟨rfl, rfl⟩
  exact ⟨rfl, ⟨h.next (p + 1) (by have := h.pos; omega), (MF.refl _ _ _ _).setCellM 0 _, by omega, by omega, [], by simp, by simp⟩, by simp⟩
end Go.Proofs.YtpodifbgfcclbaaGreatDoor

/- The maker's names, labels, numbers and calls. -/
set_option linter.unusedVariables false
set_option linter.unusedSimpArgs false
namespace Go.Proofs.YtpodifbgfcclbaaGreatDoor
open Go.RowKit
attribute [local go_sem] Nat.lt_add_one_of_lt

def RetName (B lo M R : Nat) (p : Int) (ps : List Nat) (w : World) (s : ByteArray) (e : Ending) (w' : World) : Prop :=
  ∃ i q, e = .returned (.pointer (some ⟨i, 0, none⟩)) ∧ w.heap.size ≤ i ∧ i < w'.heap.size ∧ w'.cell? ⟨i, 0, none⟩ = some (.int .i64 q) ∧ w'.cell? ⟨i, 1, none⟩ = some (.string s) ∧ ∃ p', MkTo B lo M R p ps w 1 p' ps w'
set_option maxHeartbeats 400000 in
theorem name_any (B lo M R : Nat) (p : Int) (ps : List Nat) (s : ByteArray) (w : World) (h : MS B lo M R p ps w) (h1 : p < 4611686018427387904) :
    Calls Tryz.prog 66 #[.pointer (some ⟨M, 0, none⟩), .string s] w (RetName B lo M R p ps w s) := by
  go_enter Tryz.func66, Tryz.ntmps66
  go_wp2_with fail
  refine (at_any B lo M R p ps w h h1).mono ?_
  rintro e w1 ⟨rfl, hm, hsz⟩
  have HS := Lib.hid hsz
  clear hsz
  go_wp2_with fail
  go_ret
  refine ⟨w1.heap.size, p + 1, rfl, hm.size, by simp, ?_, ?_, p + 1, hm.alloc _⟩
  · simp
  · simp

def RetNum (B lo M R : Nat) (p : Int) (ps : List Nat) (w : World) (e : Ending) (w' : World) : Prop :=
  ∃ x, e = .returned (.iface 215 (.pointer (some ⟨x, 0, none⟩))) ∧ w.heap.size ≤ x ∧ x < w'.heap.size ∧ ∃ p', MkTo B lo M R p ps w 2 p' ps w'
set_option maxHeartbeats 400000 in
theorem number_any (B lo M R : Nat) (p : Int) (ps : List Nat) (n : Int) (w : World) (h : MS B lo M R p ps w) (h1 : p + 2 < 4611686018427387904) (hn : 0 ≤ n) (hn2 : n ≤ 9223372036854775807) :
    Calls Tryz.prog 67 #[.pointer (some ⟨M, 0, none⟩), .int .i64 n] w (RetNum B lo M R p ps w) := by
  have HN2 := Lib.hid hn2
  clear hn2
  go_enter Tryz.func67, Tryz.ntmps67
  go_wp2_with fail
  refine (at_any B lo M R p ps w h (by omega)).mono ?_
  rintro e w1 ⟨rfl, hm, hsz⟩
  clear hsz
  go_wp2_with fail
  refine (at_any B lo M R (p + 1) ps w1 hm.ms (by omega)).mono ?_
  rintro e w2 ⟨rfl, hm2, hsz⟩
  clear hsz
  go_wp2_with fail
  refine (Tryz.strconv_Itoa n (by omega) HN2.out w2 hm2.ms.tab.here).mono ?_
  rintro e w3 ⟨rfl, k, os, hw3⟩
  have hb3 : Below w2.heap.size w2 w3 := by rw [hw3]; exact Lib.below_grow _ _ (Nat.le_refl _) k os
  clear hw3
  have hm3 : MkTo B lo M R p ps w 2 (p + 1 + 1) ps w3 := (hm.trans hm2).trans (c := 2) (d := 0) ⟨hm2.ms.keep hb3, .of_below hb3, Int.le_refl _, by omega, [], by simp, by simp⟩
  generalize (Lib.itoa n).toArray = N at *
  go_wp2_with fail
  go_ret
  exact ⟨w3.heap.size, rfl, hm3.size, by simp, _, hm3.alloc _⟩

/-- A label by its number. -/
def RetLab (B lo M R : Nat) (p : Int) (ps : List Nat) (w : World) (n : Int) (e : Ending) (w' : World) : Prop :=
  ∃ x, e = .returned (.pointer x) ∧ (if n = 0 then x = none else ∃ i q, x = some ⟨i, 0, none⟩ ∧ w.heap.size ≤ i ∧ i < w'.heap.size ∧ w'.cell? ⟨i, 0, none⟩ = some (.int .i64 q) ∧ w'.cell? ⟨i, 1, none⟩ = some (.string (nm n))) ∧ ∃ p', MkTo B lo M R p ps w 1 p' ps w'
theorem nm_dec (n : Nat) (h1 : 1 ≤ n) (h2 : n ≤ 9) : (⟨(76 :: Lib.decDigits n).toArray⟩ : ByteArray) = nm n := by
  have hn : n = 1 ∨ n = 2 ∨ n = 3 ∨ n = 4 ∨ n = 5 ∨ n = 6 ∨ n = 7 ∨ n = 8 ∨ n = 9 := by omega
  rcases hn with rfl | rfl | rfl | rfl | rfl | rfl | rfl | rfl | rfl <;> decide +kernel
theorem dec_len (n : Nat) (h1 : 1 ≤ n) (h2 : n ≤ 9) : (Lib.decDigits n).length ≤ 2 := by
  have hn : n = 1 ∨ n = 2 ∨ n = 3 ∨ n = 4 ∨ n = 5 ∨ n = 6 ∨ n = 7 ∨ n = 8 ∨ n = 9 := by omega
  rcases hn with rfl | rfl | rfl | rfl | rfl | rfl | rfl | rfl | rfl <;> decide +kernel
set_option maxHeartbeats 400000 in
theorem label_any (B lo M R : Nat) (p : Int) (ps : List Nat) (n : Int) (w : World) (h : MS B lo M R p ps w) (h1 : p < 4611686018427387904) (hn1 : -1 ≤ n) (hn2 : n ≤ 9) :
    Calls Tryz.prog 94 #[.pointer (some ⟨M, 0, none⟩), .int .i64 n] w (RetLab B lo M R p ps w n) := by
  by_cases h0 : n = 0
  · subst h0
    go_enter Tryz.func94, Tryz.ntmps94
    go_wp2_with fail
    go_ret
    exact ⟨none, rfl, by simp, p, (MkTo.refl h).more (by omega)⟩
  · have hz : (n == 0) = false := by simpa using h0
    by_cases hneg : n < 0
    · obtain rfl : n = -1 := by omega
      go_enter Tryz.func94, Tryz.ntmps94
      go_wp2_with fail
      refine (name_any B lo M R p ps _ w h h1).mono ?_
      rintro e w1 ⟨i, q, rfl, g1, g2, g3, g4, p', g5⟩
      go_wp2_with fail
      go_ret
      exact ⟨_, rfl, by rw [if_neg (by omega)]; exact ⟨i, q, rfl, g1, g2, g3, g4⟩, p', g5⟩
    · obtain ⟨m, rfl⟩ := Int.eq_ofNat_of_zero_le (show 0 ≤ n by omega)
      have hd := nm_dec m (by omega) (by omega)
      have HD := Lib.hid hd
      have hlen := dec_len m (by omega) (by omega)
      clear hd
      go_enter Tryz.func94, Tryz.ntmps94
      go_wp2_with fail
      refine (Tryz.strconv_Itoa_small m (by omega) w).mono ?_
      rintro e w1 ⟨rfl, rfl⟩
      generalize Lib.decDigits m = D at *
      go_wp2_with fail
      have he : (⟨#[76]⟩ : ByteArray) ++ ⟨D.toArray⟩ = nm (m : Int) := by
        rw [← HD.out]
        apply ByteArray.ext
        simp
      rw [he]
      refine (name_any B lo M R p ps _ _ h h1).mono ?_
      rintro e w1 ⟨i, q, rfl, g1, g2, g3, g4, p', g5⟩
      go_wp2_with fail
      go_ret
      exact ⟨_, rfl, by rw [if_neg (by omega)]; exact ⟨i, q, rfl, g1, g2, g3, g4⟩, p', g5⟩

theorem Own_new (w : World) (cs : Array Value) (T : Nat) : Own (w.alloc (.cells cs T)) w.heap.size T := ⟨cs, by show (w.heap.push _)[w.heap.size]? = _; rw [Array.getElem?_push, if_pos rfl]⟩
def RetCall (B lo M R : Nat) (p : Int) (ps : List Nat) (w : World) (e : Ending) (w' : World) : Prop :=
  ∃ c, e = .returned (.pointer (some ⟨c, 0, none⟩)) ∧ w.heap.size ≤ c ∧ c < w'.heap.size ∧ Own w' c 214 ∧ ∃ p', MkTo B lo M R p ps w 5 p' ps w'
set_option maxHeartbeats 400000 in
theorem call_any (B lo M R : Nat) (p : Int) (ps : List Nat) (s : ByteArray) (w : World) (h : MS B lo M R p ps w) (h1 : p + 5 < 4611686018427387904) :
    Calls Tryz.prog 65 #[.pointer (some ⟨M, 0, none⟩), .string s] w (RetCall B lo M R p ps w) := by
  go_enter Tryz.func65, Tryz.ntmps65
  go_wp2_with fail
  refine (name_any B lo M R p ps _ w h (by omega)).mono ?_
  rintro e w1 ⟨i, q, rfl, g1, g2, g3, g4, p1, g5⟩
  have u1 := g5.ub
  go_wp2_with fail
  refine (at_any B lo M R p1 ps w1 g5.ms (by omega)).mono ?_
  rintro e w2 ⟨rfl, hm2, hsz⟩
  have hm2 := g5.trans hm2
  clear hsz
  go_wp2_with fail
  refine (number_any B lo M R (p1 + 1) ps 1 w2 hm2.ms (by omega) (by omega) (by omega)).mono ?_
  rintro e w3 ⟨x, rfl, x1, x2, p3, hm3⟩
  have u3 := hm3.ub
  have hm3 := (hm2.trans hm3).alloc (.cells #[.iface 215 (.pointer (some ⟨x, 0, none⟩))] 123)
  go_wp2_with fail
  refine (at_any B lo M R p3 ps _ hm3.ms (by omega)).mono ?_
  rintro e w4 ⟨rfl, hm4, hsz⟩
  have hm4 := hm3.trans hm4
  clear hsz
  go_wp2_with fail
  go_ret
  exact ⟨w4.heap.size, rfl, hm4.size, by simp, Own_new _ _ _, p3 + 1, hm4.alloc _⟩
end Go.Proofs.YtpodifbgfcclbaaGreatDoor
