/- A statement with a label; whether a label occurs. -/
import Derived.Test.YtpodifbgfcclbaaGreatDoorLaw1
import Derived.Test.YtpodifbgfcclbaaGreatDoorLawWith
set_option linter.unusedVariables false
set_option linter.unusedSimpArgs false
namespace Go.Proofs.YtpodifbgfcclbaaGreatDoor
open Go.RowKit
attribute [local go_sem] Nat.lt_add_one_of_lt

set_option maxHeartbeats 1000000 in
theorem labeled_any (n k l d : Int) (a : Option Addr) (cap : Nat) (bd : List (List Fl)) (w : World) (hs : SLL w w.heap.size a cap bd) :
    Calls Tryz.prog 23 #[.int .i64 n, .agg #[.int .i64 k, .int .i64 l, .int .i64 d, .slice a bd.length cap]] w fun e w' => ∃ a', e = .returned (.agg #[.int .i64 10, .int .i64 n, .int .i64 0, .slice a' 1 1]) ∧ SLL w' w'.heap.size a' 1 [[.mk k l d bd]] ∧ Below w.heap.size w w' := by
  obtain ⟨W, hW⟩ : ∃ W, W = allocs w [.cells #[.int .i64 k, .int .i64 l, .int .i64 d, .slice a bd.length cap] 27, .cells #[.int .i64 10, .int .i64 n, .int .i64 0, .slice (some ⟨w.heap.size + 3, 0, none⟩) 1 1] 27, .cells #[.int .i64 k, .int .i64 l, .int .i64 d, .slice a bd.length cap] 27, .cells #[.slice (some ⟨w.heap.size + 2, 0, none⟩) 1 1] 22] := ⟨_, rfl⟩
  obtain ⟨hsz, hold, hz, ho1, ho2, ho3⟩ := allocs_spec [.cells #[.int .i64 k, .int .i64 l, .int .i64 d, .slice a bd.length cap] 27, .cells #[.int .i64 10, .int .i64 n, .int .i64 0, .slice (some ⟨w.heap.size + 3, 0, none⟩) 1 1] 27, .cells #[.int .i64 k, .int .i64 l, .int .i64 d, .slice a bd.length cap] 27, .cells #[.slice (some ⟨w.heap.size + 2, 0, none⟩) 1 1] 22] w
  rw [← hW] at hsz hold hz ho1 ho2 ho3
  simp only [List.length_cons, List.length_nil] at hsz
  have hb : Below w.heap.size w W := ⟨ho1, ho2, ho3, by omega, hold⟩
  have hx : SLL W W.heap.size (some ⟨w.heap.size + 3, 0, none⟩) 1 [[.mk k l d bd]] :=
    SLL_one (y := [.mk k l d bd]) (hz 3 _ rfl) (by omega) (SL_one (hz 2 _ rfl) (by omega) (hs.up hb))
  have HX := Lib.hid hx
  have HB := Lib.hid hb
  have HW := Lib.hid hW
  clear hx hb hsz hold hz ho1 ho2 ho3 hs hW
  go_enter Tryz.func23, Tryz.ntmps23
  go_wp2_with fail
  refine bodyPost_ret (v := .agg #[.int .i64 10, .int .i64 n, .int .i64 0, .slice (some ⟨w.heap.size + 3, 0, none⟩) 1 1]) (by simp [results, Tryz.results23, go_sem]) rfl ?_
  exact ⟨_, rfl, by rw [HW.out] at HX; exact HX.out, by rw [HW.out] at HB; exact HB.out⟩
/-- A statement in a block of its own. -/
theorem one_full {w W : World} {a : Option Addr} {cap : Nat} {bd : List (List Fl)} {k l d : Int} (hs : SLL w w.heap.size a cap bd) (hW : W = w.alloc (.cells #[.int .i64 k, .int .i64 l, .int .i64 d, .slice a bd.length cap] 27)) :
    Below w.heap.size w W ∧ W.heap.size = w.heap.size + 1 ∧ SL W W.heap.size (some ⟨w.heap.size, 0, none⟩) 1 [.mk k l d bd] := by
  have hb := bal w (.cells #[.int .i64 k, .int .i64 l, .int .i64 d, .slice a bd.length cap] 27)
  have c1 : W.heap[w.heap.size]? = some (.cells #[.int .i64 k, .int .i64 l, .int .i64 d, .slice a bd.length cap] 27) := by rw [hW]; exact blk_new _ _ _
  rw [← hW] at hb
  have hz : W.heap.size = w.heap.size + 1 := by rw [hW]; simp
  exact ⟨hb, hz, SL_one c1 (by omega) (hs.up hb)⟩
/-- The cells of such a block later on. -/
theorem one_cells {w W : World} {a : Option Addr} {n cap : Nat} {k l d : Int} (hW : W = w.alloc (.cells #[.int .i64 k, .int .i64 l, .int .i64 d, .slice a n cap] 27)) (V : World) (hb : Below W.heap.size W V) :
    V.cell? ⟨w.heap.size, 0, none⟩ = some (.int .i64 k) ∧ V.cell? ⟨w.heap.size, 1, none⟩ = some (.int .i64 l) ∧ V.cell? ⟨w.heap.size, 2, none⟩ = some (.int .i64 d) ∧ V.cell? ⟨w.heap.size, 3, none⟩ = some (.slice a n cap) ∧ w.heap.size < V.heap.size := by
  have c1 : W.heap[w.heap.size]? = some (.cells #[.int .i64 k, .int .i64 l, .int .i64 d, .slice a n cap] 27) := by rw [hW]; exact blk_new _ _ _
  have hz : W.heap.size = w.heap.size + 1 := by rw [hW]; simp
  have c2 := (hb.block w.heap.size (by omega)).trans c1
  have := hb.size
  exact ⟨by rw [blk_cell c2]; rfl, by rw [blk_cell c2]; rfl, by rw [blk_cell c2]; rfl, by rw [blk_cell c2]; rfl, by omega⟩
/-- A list of one list. -/
theorem one_lists {w W : World} {a : Option Addr} {cap : Nat} {l : List Fl} (hs : SL w w.heap.size a cap l) (hW : W = w.alloc (.cells #[.slice a l.length cap] 22)) :
    Below w.heap.size w W ∧ W.heap.size = w.heap.size + 1 ∧ SLL W W.heap.size (some ⟨w.heap.size, 0, none⟩) 1 [l] := by
  have hb := bal w (.cells #[.slice a l.length cap] 22)
  have c1 : W.heap[w.heap.size]? = some (.cells #[.slice a l.length cap] 22) := by rw [hW]; exact blk_new _ _ _
  rw [← hW] at hb
  have hz : W.heap.size = w.heap.size + 1 := by rw [hW]; simp
  exact ⟨hb, hz, SLL_one c1 (by omega) (hs.up hb)⟩
/-- A statement with one list, as its function makes it. -/
theorem one_mk {w W : World} {a : Option Addr} {cap : Nat} {l : List Fl} {k : Int} (hs : SL w w.heap.size a cap l)
    (hW : W = (w.alloc (.cells #[.slice a l.length cap] 22)).alloc (.cells #[.int .i64 k, .int .i64 0, .int .i64 0, .slice (some ⟨w.heap.size, 0, none⟩) 1 1] 27)) :
    Below w.heap.size w W ∧ W.heap.size = w.heap.size + 2 ∧ SLL W W.heap.size (some ⟨w.heap.size, 0, none⟩) 1 [l] := by
  obtain ⟨W1, hW1⟩ : ∃ W1, W1 = w.alloc (.cells #[.slice a l.length cap] 22) := ⟨_, rfl⟩
  obtain ⟨b1, z1, s1⟩ := one_lists hs hW1
  rw [← hW1] at hW
  have b2 := bal W1 (.cells #[.int .i64 k, .int .i64 0, .int .i64 0, .slice (some ⟨w.heap.size, 0, none⟩) 1 1] 27)
  rw [← hW] at b2
  have z2 : W.heap.size = W1.heap.size + 1 := by rw [hW]; simp
  exact ⟨bseq b1 b2, by omega, s1.up b2⟩
end Go.Proofs.YtpodifbgfcclbaaGreatDoor
