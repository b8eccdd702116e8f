/- What all the laws' rows share: the laid tables, what is left behind, a world that fits. -/
import Derived.Test.YtpodifbgfcclbaaGreatDoorOpn1
import Derived.Test.YtpodifbgfcclbaaGreatDoorLaw1
set_option linter.unusedVariables false
set_option linter.unusedSimpArgs false
namespace Go.Proofs.YtpodifbgfcclbaaGreatDoor
open Go.ChangeShapes Go.WideShapes Go.ChangeAt Go.RowKit

theorem ownKnob0 : ownKnob Tryz.prog.godebug = none := by kernel_rfl
theorem laidOut0 : laidOutB Tryz.prog = true := by kernel_rfl
theorem gTab0 : Tryz.prog.globalNamed "internal/strconv.uint64pow10" = some 0 := by kernel_rfl
theorem gTab0Type : (Tryz.prog.globals[0]?).map (·.type) = some 253 := by kernel_rfl
theorem cells253 : Tryz.prog.cellsOf 253 = 20 := by kernel_rfl
theorem cells245 : Tryz.prog.cellsOf 245 = 1 := by kernel_rfl
abbrev laidList : List (String × DataW Unit) := [("math/bits.deBruijn32tab", Rows.laid_math_bits_deBruijn32tab), ("math/bits.deBruijn64tab", Rows.laid_math_bits_deBruijn64tab), ("internal/strconv.uint64pow10", Rows.laid_internal_strconv_uint64pow10)]
theorem laid_is : (Rows.laid_internal_strconv_uint64pow10 : DataW Unit) = Lib.tabData .u64 Lib.pow10Tab := by kernel_rfl
theorem tab_of {W : World} (h : laidMetH Tryz.prog laidList W) : Tab W := by
  have h' : laidMet Tryz.prog laidList W := h
  obtain ⟨ps, ⟨_, _, _, _, _, _, _, _, _, _, ⟨_, _, _, _, _, _, _, _, _, _, ⟨g', t', cs, fuel, p, q, hg', ht', hvar, hd, _, _⟩, _⟩, _⟩, _⟩ := h'
  obtain rfl := Option.some.inj (gTab0.symm.trans hg')
  obtain rfl := Option.some.inj (gTab0Type.symm.trans ht')
  rw [laid_is] at hd
  have hcs := Lib.cells_of_tab Tryz.underlying253 Tryz.underlying245 cells245 cells253 hd
  have ht : Lib.TabIs Tryz.prog W "internal/strconv.uint64pow10" .u64 Lib.pow10Tab := by
    unfold Lib.TabIs
    rw [hvar, ← hcs]
  exact Lib.tabBelow_of_tabIs ht
section
variable {H : Type} {enc : TypeId × Value → H}
theorem trodAll_below {W W' : World} (hb : Below W.heap.size W W') : ∀ {ts : List TypeId} {vs : List Value} {ds : List (DataW H)} {ps : List MemPlace}, (∀ t ∈ ts, Tryz.prog.readableRec t = true ∧ t < Tryz.prog.types.size) → (∀ x ∈ ps, x.block < W.heap.size) →
    DataW.TrodAll enc Tryz.prog W 0 (fun _ => true) true ts vs ds ps → DataW.TrodAll enc Tryz.prog W' 0 (fun b => decide (b < W.heap.size)) true ts vs ds ps
  | [], [], [], ps, _, _, h => h
  | t :: ts, v :: vs, d :: ds, ps, hr, hl, h => by
    obtain ⟨p, q, h1, h2, rfl⟩ := h
    obtain ⟨r1, r2⟩ := hr t (by simp)
    exact ⟨p, q, Below.trod laidOut0 r1 r2 h1 hb (fun x hx => hl x (by simp [hx])), trodAll_below hb (fun t ht => hr t (by simp [ht])) (fun x hx => hl x (by simp [hx])) h2, rfl⟩
  | [], [], _ :: _, _, _, _, h => h.elim
  | [], _ :: _, _, _, _, _, h => h.elim
  | _ :: _, [], _, _, _, _, h => h.elim
  | _ :: _, _ :: _, [], _, _, _, h => h.elim
theorem post_true {f : Func} {s : ChangeSpec} {W W' : World} {args : Array Value} {ds gs : List (DataW H)} {before : List MemPlace} (hW : DataW.Whole enc Tryz.prog f.params.toList s.vars false W args.toList ds gs before) (hv : s.vars = [])
    (hp : ∀ t ∈ f.params.toList, Tryz.prog.readableRec t = true ∧ t < Tryz.prog.types.size) (hr : f.resultTypes = #[4]) (hs : gs = [] → (s.fn H (ds ++ gs)).results = [.lit (.bool true)] ∧ (s.fn H (ds ++ gs)).args = ds ∧ (s.fn H (ds ++ gs)).vars = [])
    (hb : Below W.heap.size W W') : s.post enc Tryz.prog f false true false false W args (.bool true) W' := by
  have hlt := hW.lt
  have hW' := hW
  obtain ⟨p, q, hA, hV, rfl, hfz, hnd⟩ := hW'
  rw [hv] at hV
  obtain ⟨rfl, rfl⟩ := trodVars_none hV
  obtain ⟨e1, e2, e3⟩ := hs rfl
  refine ⟨ds, [], _, [], p, [], hW, ?_, ?_, ?_, (hb.frame _), fun h => by cases h⟩
  · rw [hr, e1]
    exact trodAll_cons_mk (shut_bool Tryz.underlying4 _) trodAll_mk0
  · rw [e2]
    exact trodAll_below hb hp (fun x hx => hlt x (by simp [hx])) hA
  · rw [e3, hv]
    rfl
theorem ok_slice {P : Program} {w : World} {r : Reach} {base : Nat} {t e : TypeId} {v : Value} (ht : P.underlying t = some (.slice e)) (h : Value.okWide P w r base t v) : ∃ a n c, v = .slice a n c := by
  unfold Value.okWide at h
  rw [ht] at h
  simp only at h
  unfold Cell.okWide at h
  rw [ht] at h
  cases v with
  | slice a n c => exact ⟨a, n, c, rfl⟩
  | _ => simp [Cell.ok, ht] at h
set_option maxRecDepth 100000 in
/-- A list of statements among the arguments. -/
theorem open_list {W : World} {base : Nat} {v : Value} {d : DataW H} {p : List MemPlace} (hval : Value.okWide Tryz.prog W .any base 22 v) (h : DataW.Trod enc Tryz.prog W 0 (fun _ => true) true 22 v d p) (hw : ∀ n ∈ d.weights Tryz.prog 22, n ≤ reachBytes) : ∃ a cap l, v = .slice a l.length cap ∧ SL W W.heap.size a cap l := by
  obtain ⟨a, n, c, rfl⟩ := ok_slice Tryz.underlying22 hval
  obtain ⟨fuel, h⟩ := h
  obtain ⟨a', cap', l, e, hs⟩ := (open_all fuel).1 _ _ h hw
  have e' : [Value.slice a n c] = [Value.slice a' l.length cap'] := e
  simp only [List.cons.injEq, and_true] at e'
  exact ⟨a', cap', l, e', hs⟩
set_option maxRecDepth 100000 in
theorem open_lists {W : World} {base : Nat} {v : Value} {d : DataW H} {p : List MemPlace} (hval : Value.okWide Tryz.prog W .any base 25 v) (h : DataW.Trod enc Tryz.prog W 0 (fun _ => true) true 25 v d p) (hw : ∀ n ∈ d.weights Tryz.prog 25, n ≤ reachBytes) : ∃ a cap l, v = .slice a l.length cap ∧ SLL W W.heap.size a cap l := by
  obtain ⟨a, n, c, rfl⟩ := ok_slice Tryz.underlying25 hval
  obtain ⟨fuel, h⟩ := h
  obtain ⟨a', cap', l, e, hs⟩ := (open_all fuel).2.1 _ _ h hw
  have e' : [Value.slice a n c] = [Value.slice a' l.length cap'] := e
  simp only [List.cons.injEq, and_true] at e'
  exact ⟨a', cap', l, e', hs⟩
end
def layT (l : Array Value) : Obj → Obj
  | .cells _ t frozen => .cells l t frozen
  | o => o
/-- A world for the witness: the settled one, with the tables as their initialisers lay them. -/
noncomputable def laidWorld (os : Os) : World :=
  { World.holding Tryz.prog os ⟨#[], #[], []⟩ with heap := (((World.holding Tryz.prog os ⟨#[], #[], []⟩).heap.modify 0 (layT #[.int .u64 1, .int .u64 10, .int .u64 100, .int .u64 1000, .int .u64 10000, .int .u64 100000, .int .u64 1000000, .int .u64 10000000, .int .u64 100000000, .int .u64 1000000000, .int .u64 10000000000, .int .u64 100000000000, .int .u64 1000000000000, .int .u64 10000000000000, .int .u64 100000000000000, .int .u64 1000000000000000, .int .u64 10000000000000000, .int .u64 100000000000000000, .int .u64 1000000000000000000, .int .u64 10000000000000000000])).modify 1 (layT #[.int .u8 0, .int .u8 1, .int .u8 28, .int .u8 2, .int .u8 29, .int .u8 14, .int .u8 24, .int .u8 3, .int .u8 30, .int .u8 22, .int .u8 20, .int .u8 15, .int .u8 25, .int .u8 17, .int .u8 4, .int .u8 8, .int .u8 31, .int .u8 27, .int .u8 13, .int .u8 23, .int .u8 21, .int .u8 19, .int .u8 16, .int .u8 7, .int .u8 26, .int .u8 12, .int .u8 18, .int .u8 6, .int .u8 11, .int .u8 5, .int .u8 10, .int .u8 9])).modify 2 (layT #[.int .u8 0, .int .u8 1, .int .u8 56, .int .u8 2, .int .u8 57, .int .u8 49, .int .u8 28, .int .u8 3, .int .u8 61, .int .u8 58, .int .u8 42, .int .u8 50, .int .u8 38, .int .u8 29, .int .u8 17, .int .u8 4, .int .u8 62, .int .u8 47, .int .u8 59, .int .u8 36, .int .u8 45, .int .u8 43, .int .u8 51, .int .u8 22, .int .u8 53, .int .u8 39, .int .u8 33, .int .u8 30, .int .u8 24, .int .u8 18, .int .u8 12, .int .u8 5, .int .u8 63, .int .u8 55, .int .u8 48, .int .u8 27, .int .u8 60, .int .u8 41, .int .u8 37, .int .u8 16, .int .u8 46, .int .u8 35, .int .u8 44, .int .u8 21, .int .u8 52, .int .u8 32, .int .u8 23, .int .u8 11, .int .u8 54, .int .u8 26, .int .u8 40, .int .u8 15, .int .u8 34, .int .u8 20, .int .u8 31, .int .u8 10, .int .u8 25, .int .u8 14, .int .u8 19, .int .u8 9, .int .u8 13, .int .u8 8, .int .u8 7, .int .u8 6]) }
theorem read22 : Tryz.prog.readableRec 22 = true ∧ 22 < Tryz.prog.types.size := ⟨by kernel_rfl, of_decide_eq_true (by kernel_rfl)⟩
theorem read25 : Tryz.prog.readableRec 25 = true ∧ 25 < Tryz.prog.types.size := ⟨by kernel_rfl, of_decide_eq_true (by kernel_rfl)⟩
theorem read27 : Tryz.prog.readableRec 27 = true ∧ 27 < Tryz.prog.types.size := ⟨by kernel_rfl, of_decide_eq_true (by kernel_rfl)⟩
theorem read3 : Tryz.prog.readableRec 3 = true ∧ 3 < Tryz.prog.types.size := ⟨by kernel_rfl, of_decide_eq_true (by kernel_rfl)⟩
theorem read4 : Tryz.prog.readableRec 4 = true ∧ 4 < Tryz.prog.types.size := ⟨by kernel_rfl, of_decide_eq_true (by kernel_rfl)⟩
end Go.Proofs.YtpodifbgfcclbaaGreatDoor
