/- FnTurned: the law answers true, whatever the input, and its arguments read as before. -/
import Derived.Test.YtpodifbgfcclbaaGreatDoorFrm1
import Derived.Test.YtpodifbgfcclbaaGreatDoorLawTurn
set_option linter.unusedVariables false
set_option linter.unusedSimpArgs false
namespace Go.Proofs.YtpodifbgfcclbaaGreatDoor.fnTurned
open Go.ChangeShapes Go.WideShapes Go.ChangeAt Go.RowKit

set_option maxRecDepth 100000 in
theorem contract (H : Type) (enc : TypeId × Value → H) (W : World) (base : Nat) (args : Array Value) (ds gs : List (DataW H)) (before : List MemPlace)
    (hval : ∀ (j : Nat) t v, Tryz.f18.params[j]? = some t → args[j]? = some v → Value.okWide Tryz.prog W .any base t v)
    (hW : DataW.Whole enc Tryz.prog Tryz.f18.params.toList Rows.fnTurnedSpec.vars false W args.toList ds gs before)
    (hZ : (DataW.weightsEach Tryz.prog (Tryz.f18.params.toList ++ (OpenSpec.ofChange Rows.fnTurnedSpec).bare.plain.varTypes Tryz.prog) (ds ++ gs)).all (· ≤ reachBytes) = true) (hL : laidMetH Tryz.prog Rows.fnTurnedRow.laid W) :
    Calls Tryz.prog 18 args W fun e W' => ∃ v, e = .returned v ∧ Rows.fnTurnedSpec.post enc Tryz.prog Tryz.f18 false true false false W args v W' := by
  have hW' := hW
  obtain ⟨p, q, hA0, hV, rfl, hfz, hnd⟩ := hW
  obtain ⟨rfl, rfl⟩ := trodVars_none hV
  have hA : DataW.TrodAll enc Tryz.prog W 0 (fun _ => true) true Tryz.f18.params.toList args.toList ds p := hA0
  have hZ' : ∀ n ∈ DataW.weightsEach Tryz.prog (Tryz.f18.params.toList ++ (OpenSpec.ofChange Rows.fnTurnedSpec).bare.plain.varTypes Tryz.prog) (ds ++ []), n ≤ reachBytes := fun n hn => of_decide_eq_true (List.all_eq_true.1 hZ n hn)
  rw [Tryz.params18] at hA hval hZ'
  obtain ⟨v0, vs0, d0, ds0, p0, q0, hargs, rfl, rfl, h0, r0⟩ := trodAll_cons hA
  obtain ⟨v1, vs1, d1, ds1, p1, q1, rfl, rfl, rfl, h1, r1⟩ := trodAll_cons r0
  obtain ⟨v2, vs2, d2, ds2, p2, q2, rfl, rfl, rfl, h2, r2⟩ := trodAll_cons r1
  obtain ⟨v3, vs3, d3, ds3, p3, q3, rfl, rfl, rfl, h3, r3⟩ := trodAll_cons r2
  obtain ⟨rfl, rfl, rfl⟩ := trodAll_nil r3
  obtain rfl : args = #[v0, v1, v2, v3] := by cases args; simp_all
  have hzw : ∀ n ∈ DataW.weightsEach Tryz.prog [25, 3, 3, 3] [d0, d1, d2, d3], n ≤ reachBytes := fun n hn => hZ' n (by
    rw [List.append_nil]
    exact hn)
  obtain ⟨a0, c0, l, rfl, hs0⟩ := open_lists (hval 0 25 v0 rfl rfl) h0 (fun n hn => hzw n (by simp only [DataW.weightsEach, List.mem_append]; exact .inl hn))
  obtain ⟨k, rfl, _, _, wf1⟩ := open_int Tryz.underlying3 (hval 1 3 v1 rfl rfl) h1
  obtain ⟨n, rfl, _, _, wf2⟩ := open_int Tryz.underlying3 (hval 2 3 v2 rfl rfl) h2
  obtain ⟨i, rfl, _, _, wf3⟩ := open_int Tryz.underlying3 (hval 3 3 v3 rfl rfl) h3
  refine (fnTurned_any l k n i a0 c0 W hs0 (tab_of hL)).mono fun e W' he => ?_
  obtain ⟨rfl, hb⟩ := he
  exact ⟨_, rfl, post_true hW' rfl (by
    rw [Tryz.params18]
    intro t ht
    simp only [List.mem_cons, List.mem_singleton, List.not_mem_nil, or_false] at ht
    rcases ht with rfl | rfl | rfl | rfl <;> first | exact read22 | exact read25 | exact read27 | exact read3 | exact read4) (by kernel_rfl) (fun _ => ⟨rfl, rfl, rfl⟩) hb⟩
theorem laid_met (os : Os) : laidMet Tryz.prog Rows.fnTurnedRow.laid ((laidWorld os).forCall (fun _ _ => 0) ⟨#[], #[.slice none 0 0, .int .i64 0, .int .i64 0, .int .i64 0], []⟩).memory :=
  laidMet_of_run' 8 (by kernel_rfl) (by kernel_rfl)
theorem reads (os : Os) {H : Type} (enc : TypeId × Value → H) : ∃ places, DataW.whole enc Tryz.prog ((laidWorld os).forCall (fun _ _ => 0) ⟨#[], #[.slice none 0 0, .int .i64 0, .int .i64 0, .int .i64 0], []⟩).memory Tryz.f18.params.toList Rows.fnTurnedSpec.vars false (#[.slice none 0 0, .int .i64 0, .int .i64 0, .int .i64 0] : Array Value).toList 8 = some ([.nil, .lit (.int .i64 0), .lit (.int .i64 0), .lit (.int .i64 0)], [], places) :=
  ⟨[], by kernel_rfl⟩
set_option maxRecDepth 100000 in
theorem lifted (os : Os) (started : os.Started) (H : Type) (enc : TypeId × Value → H) (F : Stop.Interp) :
    ReturnsInHanded {} Tryz.checked os 18 .any ((OpenSpec.ofChange Rows.fnTurnedSpec).preRow enc Tryz.prog Tryz.f18 Rows.fnTurnedRow.domain false Rows.fnTurnedRow.laid) (((OpenSpec.ofChange Rows.fnTurnedSpec).at F).post enc Tryz.prog Tryz.f18 false true false false) := by
  obtain ⟨places, hx⟩ := reads os enc
  refine returnsInHanded_of_row (C := Tryz.checked) (s := OpenSpec.ofChange Rows.fnTurnedSpec) ownKnob0 started (by kernel_rfl) Tryz.func18
    (witness_row_at (enc := enc) (C := Tryz.checked) false (laidWorld os) #[.slice none 0 0, .int .i64 0, .int .i64 0, .int .i64 0] rfl (by kernel_rfl) (by kernel_rfl) (by kernel_rfl)
      (OpenSpec.preRow_of_cond 8 hx (by kernel_rfl) (fun k hk => by cases hk) (by kernel_rfl) (laid_met os))) ?_
  intro W base args ds gs before hval hW _ _ hZ hL _ _
  exact contract H enc W base args ds gs before hval hW hZ hL
theorem said : Rows.FnTurnedSaid :=
  OpenClaim.holds_of_cond 18 Tryz.f18 rfl rfl rfl rfl rfl rfl rfl ⟨rfl, rfl, rfl, rfl, rfl⟩ rfl rfl rfl rfl rfl (by kernel_rfl) Tryz.func18 (by kernel_rfl)
    (of_decide_eq_true (by kernel_rfl)) (by unfold Func.isWrapper; first | (rw [if_pos (by decide +kernel)]; kernel_rfl) | (rw [if_neg (by decide +kernel)]; exact ⟨rfl, rfl⟩))
    (fun os started H enc _ F => by rw [OpenClaim.pre_eq_preRow]; exact lifted os started H enc F)
theorem plain (f : FuncId) (fn : Func) (hf : Tryz.pinned.checked.prog.funcNamed "fieldgate/laws.FnTurned" = some f) (hfn : Tryz.pinned.checked.prog.funcs[f]? = some fn) :
    true = Tryz.pinned.checked.prog.looks [] ∧ ∀ (j : Nat) t, fn.params[j]? = some t → Tryz.pinned.checked.prog.wantsStandIn t = false := by
  obtain rfl : f = 18 := Option.some.inj ((show Tryz.prog.funcNamed "fieldgate/laws.FnTurned" = some 18 by kernel_rfl).symm.trans hf) |>.symm
  obtain rfl : fn = Tryz.f18 := (Option.some.inj (Tryz.func18.symm.trans hfn)).symm
  refine ⟨by kernel_rfl, fun j t ht => ?_⟩
  rw [Tryz.params18] at ht
  have hm := Array.mem_of_getElem? ht
  simp only [List.mem_toArray, List.mem_cons, List.mem_singleton, List.not_mem_nil, or_false] at hm
  rcases hm with rfl | rfl | rfl | rfl
  · exact (show Tryz.prog.wantsStandIn 25 = false by kernel_rfl)
  · exact (show Tryz.prog.wantsStandIn 3 = false by kernel_rfl)
  · exact (show Tryz.prog.wantsStandIn 3 = false by kernel_rfl)
  · exact (show Tryz.prog.wantsStandIn 3 = false by kernel_rfl)
end Go.Proofs.YtpodifbgfcclbaaGreatDoor.fnTurned
namespace Go.Proofs.YtpodifbgfcclbaaGreatDoor
/-- The card. -/
theorem fnTurned_card : Rows.FnTurnedCardSaid :=
  Claim7.holds_tied_plain_at .later [] _ _ _ _ fnTurned.said (fun _ h => by cases h) (by kernel_rfl) (fun _ h => by cases h) fnTurned_row_tie rfl ⟨rfl, rfl⟩ (by kernel_rfl) rfl fnTurned.plain (by kernel_rfl)
#print axioms fnTurned_card
end Go.Proofs.YtpodifbgfcclbaaGreatDoor
