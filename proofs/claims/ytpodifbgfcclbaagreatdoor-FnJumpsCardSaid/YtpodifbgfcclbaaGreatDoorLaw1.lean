/- What the laws' helpers do. -/
import Derived.Test.YtpodifbgfcclbaaGreatDoorJm26
import Derived.Test.YtpodifbgfcclbaaGreatDoorVal4
import Derived.Test.YtpodifbgfcclbaaGreatDoorJmp1
set_option linter.unusedVariables false
set_option linter.unusedSimpArgs false
namespace Go.Proofs.YtpodifbgfcclbaaGreatDoor
open Go.RowKit
attribute [local go_sem] Nat.lt_add_one_of_lt

abbrev Tab (w : World) : Prop := Lib.TabBelow Tryz.prog w.heap.size w "internal/strconv.uint64pow10" .u64 Lib.pow10Tab
theorem Tab.on {w w' : World} (h : Tab w) (hb : Below w.heap.size w w') : Tab w' := by
  intro w2 h2
  exact h w2 (hb.trans (Below.mono h2 hb.size))
theorem SL_one {w : World} {H b T cap : Nat} {k l d : Int} {a : Option Addr} {bd : List (List Fl)} (h : w.heap[b]? = some (.cells #[.int .i64 k, .int .i64 l, .int .i64 d, .slice a bd.length cap] T)) (hb : b < H) (hs : SLL w H a cap bd) : SL w H (some ⟨b, 0, none⟩) 1 [.mk k l d bd] :=
  ⟨by simp, by simp, b, 0, fun _ => rfl, EL_cons.2 ⟨hb, by rw [blk_cell h]; rfl, by rw [blk_cell h]; rfl, by rw [blk_cell h]; rfl, ⟨a, cap, by rw [blk_cell h]; rfl, hs⟩, EL_nil⟩⟩
theorem SLL_one {w : World} {H b T cap : Nat} {a : Option Addr} {y : List Fl} (h : w.heap[b]? = some (.cells #[.slice a y.length cap] T)) (hb : b < H) (hs : SL w H a cap y) : SLL w H (some ⟨b, 0, none⟩) 1 [y] :=
  ⟨by simp, by simp, b, 0, fun _ => rfl, ELL_cons.2 ⟨hb, ⟨a, cap, by rw [blk_cell h]; rfl, hs⟩, ELL_nil⟩⟩
theorem SL.up {w w' : World} {a : Option Addr} {cap : Nat} {l : List Fl} (h : SL w w.heap.size a cap l) (hb : Below w.heap.size w w') : SL w' w'.heap.size a cap l := h.keep (fun k hk => hb.block k hk) hb.size
theorem SLL.up {w w' : World} {a : Option Addr} {cap : Nat} {l : List (List Fl)} (h : SLL w w.heap.size a cap l) (hb : Below w.heap.size w w') : SLL w' w'.heap.size a cap l := h.keep (fun k hk => hb.block k hk) hb.size
theorem bal (w : World) (o : Obj) : Below w.heap.size w (w.alloc o) := (Below.refl _ _).alloc (Nat.le_refl _) _
theorem bseq {a b c : World} (h : Below a.heap.size a b) (k : Below b.heap.size b c) : Below a.heap.size a c := h.trans (Below.mono k h.size)
theorem ends_up (l : List Fl) (a : Option Addr) (cap : Nat) (w : World) (hs : SL w w.heap.size a cap l) (ht : Tab w) (hv : validL l = true) : Calls Tryz.prog 28 #[.slice a l.length cap] w (RetB w (teL l)) := ends_any l a cap w hs ht hv
theorem v1 : validL [.mk 0 0 0 []] = true := by decide +kernel
theorem v2 : validL [] = true := by decide +kernel
theorem v3 : validL [.mk 10 1 0 []] = true := by decide +kernel
theorem r1t : teL [.mk 0 0 0 []] = true := by decide +kernel
theorem r2t : teL [] = false := by decide +kernel
theorem r3t : jumpsJ [] = true := by decide +kernel
theorem r4t : jumpsJ [.mk 10 1 0 []] = false := by decide +kernel
set_option maxHeartbeats 1000000 in
theorem works_any (w : World) (ht : Tab w) : Calls Tryz.prog 27 #[] w (RetB w true) := by
  obtain ⟨W1, hW1⟩ : ∃ W1, W1 = w.alloc (.cells #[.int .i64 0, .int .i64 0, .int .i64 0, .slice none 0 0] 27) := ⟨_, rfl⟩
  have hb1 : Below w.heap.size w W1 := by rw [hW1]; exact bal _ _
  have hsz1 : W1.heap.size = w.heap.size + 1 := by rw [hW1]; simp
  have hs1 : SL W1 W1.heap.size (some ⟨w.heap.size, 0, none⟩) 1 [.mk 0 0 0 []] := SL_one (by rw [hW1]; exact blk_new _ _ 27) (by omega) SLL.nil
  have c1 := ends_any _ _ _ W1 hs1 (ht.on hb1) v1
  rw [r1t] at c1
  have HC1 := Lib.hid c1
  have HW1 := Lib.hid hW1
  have HB1 := Lib.hid hb1
  have HT := Lib.hid ht
  clear c1 hW1 hs1 hb1 ht
  go_enter Tryz.func27, Tryz.ntmps27
  go_wp2_with fail
  rw [← HW1.out]
  refine (HC1.out).mono ?_
  rintro e w2 ⟨rfl, hb2⟩
  have t2 : Tab w2 := (HT.out.on HB1.out).on hb2
  have c2 := ends_any [] none 0 w2 SL.nil t2 v2
  rw [r2t] at c2
  have HC2 := Lib.hid c2
  have HB2 := Lib.hid hb2
  have HT2 := Lib.hid t2
  clear c2 hb2 t2
  go_wp2_with fail
  refine (HC2.out).mono ?_
  rintro e w3 ⟨rfl, hb3⟩
  have t3 : Tab w3 := HT2.out.on hb3
  have c3 := jumps_any [] none 0 w3 SL.nil t3 v2
  rw [r3t] at c3
  have HC3 := Lib.hid c3
  have HB3 := Lib.hid hb3
  have HT3 := Lib.hid t3
  clear c3 hb3 t3
  go_wp2_with fail
  refine (HC3.out).mono ?_
  rintro e w4 ⟨rfl, hb4⟩
  obtain ⟨W5, hW5⟩ : ∃ W5, W5 = w4.alloc (.cells #[.int .i64 10, .int .i64 1, .int .i64 0, .slice none 0 0] 27) := ⟨_, rfl⟩
  have hb5 : Below w4.heap.size w4 W5 := by rw [hW5]; exact bal _ _
  have hsz5 : W5.heap.size = w4.heap.size + 1 := by rw [hW5]; simp
  have hs5 : SL W5 W5.heap.size (some ⟨w4.heap.size, 0, none⟩) 1 [.mk 10 1 0 []] := SL_one (by rw [hW5]; exact blk_new _ _ 27) (by omega) SLL.nil
  have c5 := jumps_any _ _ _ W5 hs5 ((HT3.out.on hb4).on hb5) v3
  rw [r4t] at c5
  have HC5 := Lib.hid c5
  have HW5 := Lib.hid hW5
  have HB5 := Lib.hid hb5
  have HB4 := Lib.hid hb4
  clear c5 hW5 hs5 hb5 hb4
  go_wp2_with fail
  rw [← HW5.out]
  refine (HC5.out).mono ?_
  rintro e w6 ⟨rfl, hb6⟩
  go_wp2_with fail
  go_ret
  exact ⟨rfl, bseq (bseq (bseq (bseq HB1.out HB2.out) HB3.out) HB4.out) (bseq HB5.out hb6)⟩
theorem of_any (k : Int) (a : Option Addr) (n cap : Nat) (w : World) : Calls Tryz.prog 25 #[.int .i64 k, .slice a n cap] w fun e w' => e = .returned (.agg #[.int .i64 k, .int .i64 0, .int .i64 0, .slice a n cap]) ∧ w' = w.alloc (.cells #[.int .i64 k, .int .i64 0, .int .i64 0, .slice a n cap] 27) := by
  go_enter Tryz.func25, Tryz.ntmps25
  go_wp2_with fail
  refine bodyPost_ret (v := .agg #[.int .i64 k, .int .i64 0, .int .i64 0, .slice a n cap]) (by simp [results, Tryz.results25, go_sem]) rfl ?_
  exact ⟨rfl, rfl⟩
end Go.Proofs.YtpodifbgfcclbaaGreatDoor
