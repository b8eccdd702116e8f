/- FnRenamed: the law answers true, whatever the input, and its arguments read as before. -/
import Derived.Test.YtpodifbgfcclbaaGreatDoorFrm1
import Derived.Test.YtpodifbgfcclbaaGreatDoorLawRen
set_option linter.unusedVariables false
set_option linter.unusedSimpArgs false
namespace Go.Proofs.YtpodifbgfcclbaaGreatDoor.fnRenamed
open Go.ChangeShapes Go.WideShapes Go.ChangeAt Go.RowKit

set_option maxRecDepth 100000 in
theorem contract (H : Type) (enc : TypeId × Value → H) (W : World) (base : Nat) (args : Array Value) (ds gs : List (DataW H)) (before : List MemPlace)
    (hval : ∀ (j : Nat) t v, Tryz.f17.params[j]? = some t → args[j]? = some v → Value.okWide Tryz.prog W .any base t v)
    (hW : DataW.Whole enc Tryz.prog Tryz.f17.params.toList Rows.fnRenamedSpec.vars false W args.toList ds gs before)
    (hZ : (DataW.weightsEach Tryz.prog (Tryz.f17.params.toList ++ (OpenSpec.ofChange Rows.fnRenamedSpec).bare.plain.varTypes Tryz.prog) (ds ++ gs)).all (· ≤ reachBytes) = true) (hL : laidMetH Tryz.prog Rows.fnRenamedRow.laid W) :
    Calls Tryz.prog 17 args W fun e W' => ∃ v, e = .returned v ∧ Rows.fnRenamedSpec.post enc Tryz.prog Tryz.f17 false true false false W args v W' := by
  have hW' := hW
  obtain ⟨p, q, hA0, hV, rfl, hfz, hnd⟩ := hW
  obtain ⟨rfl, rfl⟩ := trodVars_none hV
  have hA : DataW.TrodAll enc Tryz.prog W 0 (fun _ => true) true Tryz.f17.params.toList args.toList ds p := hA0
  have hZ' : ∀ n ∈ DataW.weightsEach Tryz.prog (Tryz.f17.params.toList ++ (OpenSpec.ofChange Rows.fnRenamedSpec).bare.plain.varTypes Tryz.prog) (ds ++ []), n ≤ reachBytes := fun n hn => of_decide_eq_true (List.all_eq_true.1 hZ n hn)
  rw [Tryz.params17] at hA hval hZ'
  obtain ⟨v0, vs0, d0, ds0, p0, q0, hargs, rfl, rfl, h0, r0⟩ := trodAll_cons hA
  obtain ⟨v1, vs1, d1, ds1, p1, q1, rfl, rfl, rfl, h1, r1⟩ := trodAll_cons r0
  obtain ⟨v2, vs2, d2, ds2, p2, q2, rfl, rfl, rfl, h2, r2⟩ := trodAll_cons r1
  obtain ⟨rfl, rfl, rfl⟩ := trodAll_nil r2
  obtain rfl : args = #[v0, v1, v2] := by cases args; simp_all
  have hzw : ∀ n ∈ DataW.weightsEach Tryz.prog [22, 3, 3] [d0, d1, d2], n ≤ reachBytes := fun n hn => hZ' n (by
    rw [List.append_nil]
    exact hn)
  obtain ⟨a0, c0, l, rfl, hs0⟩ := open_list (hval 0 22 v0 rfl rfl) h0 (fun n hn => hzw n (by simp only [DataW.weightsEach, List.mem_append]; exact .inl hn))
  obtain ⟨a, rfl, _, _, wf1⟩ := open_int Tryz.underlying3 (hval 1 3 v1 rfl rfl) h1
  obtain ⟨b, rfl, _, _, wf2⟩ := open_int Tryz.underlying3 (hval 2 3 v2 rfl rfl) h2
  refine (fnRenamed_any l a b a0 c0 W hs0 (tab_of hL)).mono fun e W' he => ?_
  obtain ⟨rfl, hb⟩ := he
  exact ⟨_, rfl, post_true hW' rfl (by
    rw [Tryz.params17]
    intro t ht
    simp only [List.mem_cons, List.mem_singleton, List.not_mem_nil, or_false] at ht
    rcases ht with rfl | rfl | rfl <;> first | exact read22 | exact read25 | exact read27 | exact read3 | exact read4) (by kernel_rfl) (fun _ => ⟨rfl, rfl, rfl⟩) hb⟩
theorem laid_met (os : Os) : laidMet Tryz.prog Rows.fnRenamedRow.laid ((laidWorld os).forCall (fun _ _ => 0) ⟨#[], #[.slice none 0 0, .int .i64 0, .int .i64 0], []⟩).memory :=
  laidMet_of_run' 8 (by kernel_rfl) (by kernel_rfl)
theorem reads (os : Os) {H : Type} (enc : TypeId × Value → H) : ∃ places, DataW.whole enc Tryz.prog ((laidWorld os).forCall (fun _ _ => 0) ⟨#[], #[.slice none 0 0, .int .i64 0, .int .i64 0], []⟩).memory Tryz.f17.params.toList Rows.fnRenamedSpec.vars false (#[.slice none 0 0, .int .i64 0, .int .i64 0] : Array Value).toList 8 = some ([.nil, .lit (.int .i64 0), .lit (.int .i64 0)], [], places) :=
  ⟨[], by kernel_rfl⟩
set_option maxRecDepth 100000 in
theorem lifted (os : Os) (started : os.Started) (H : Type) (enc : TypeId × Value → H) (F : Stop.Interp) :
    ReturnsInHanded {} Tryz.checked os 17 .any ((OpenSpec.ofChange Rows.fnRenamedSpec).preRow enc Tryz.prog Tryz.f17 Rows.fnRenamedRow.domain false Rows.fnRenamedRow.laid) (((OpenSpec.ofChange Rows.fnRenamedSpec).at F).post enc Tryz.prog Tryz.f17 false true false false) := by
  obtain ⟨places, hx⟩ := reads os enc
  refine returnsInHanded_of_row (C := Tryz.checked) (s := OpenSpec.ofChange Rows.fnRenamedSpec) ownKnob0 started (by kernel_rfl) Tryz.func17
    (witness_row_at (enc := enc) (C := Tryz.checked) false (laidWorld os) #[.slice none 0 0, .int .i64 0, .int .i64 0] rfl (by kernel_rfl) (by kernel_rfl) (by kernel_rfl)
      (OpenSpec.preRow_of_cond 8 hx (by kernel_rfl) (fun k hk => by cases hk) (by kernel_rfl) (laid_met os))) ?_
  intro W base args ds gs before hval hW _ _ hZ hL _ _
  exact contract H enc W base args ds gs before hval hW hZ hL
theorem said : Rows.FnRenamedSaid :=
  OpenClaim.holds_of_cond 17 Tryz.f17 rfl rfl rfl rfl rfl rfl rfl ⟨rfl, rfl, rfl, rfl, rfl⟩ rfl rfl rfl rfl rfl (by kernel_rfl) Tryz.func17 (by kernel_rfl)
    (of_decide_eq_true (by kernel_rfl)) (by unfold Func.isWrapper; first | (rw [if_pos (by decide +kernel)]; kernel_rfl) | (rw [if_neg (by decide +kernel)]; exact ⟨rfl, rfl⟩))
    (fun os started H enc _ F => by rw [OpenClaim.pre_eq_preRow]; exact lifted os started H enc F)
theorem plain (f : FuncId) (fn : Func) (hf : Tryz.pinned.checked.prog.funcNamed "fieldgate/laws.FnRenamed" = some f) (hfn : Tryz.pinned.checked.prog.funcs[f]? = some fn) :
    true = Tryz.pinned.checked.prog.looks [] ∧ ∀ (j : Nat) t, fn.params[j]? = some t → Tryz.pinned.checked.prog.wantsStandIn t = false := by
  obtain rfl : f = 17 := Option.some.inj ((show Tryz.prog.funcNamed "fieldgate/laws.FnRenamed" = some 17 by kernel_rfl).symm.trans hf) |>.symm
  obtain rfl : fn = Tryz.f17 := (Option.some.inj (Tryz.func17.symm.trans hfn)).symm
  refine ⟨by kernel_rfl, fun j t ht => ?_⟩
  rw [Tryz.params17] at ht
  have hm := Array.mem_of_getElem? ht
  simp only [List.mem_toArray, List.mem_cons, List.mem_singleton, List.not_mem_nil, or_false] at hm
  rcases hm with rfl | rfl | rfl
  · exact (show Tryz.prog.wantsStandIn 22 = false by kernel_rfl)
  · exact (show Tryz.prog.wantsStandIn 3 = false by kernel_rfl)
  · exact (show Tryz.prog.wantsStandIn 3 = false by kernel_rfl)
end Go.Proofs.YtpodifbgfcclbaaGreatDoor.fnRenamed
namespace Go.Proofs.YtpodifbgfcclbaaGreatDoor
/-- The card. -/
theorem fnRenamed_card : Rows.FnRenamedCardSaid :=
  Claim7.holds_tied_plain_at .later [] _ _ _ _ fnRenamed.said (fun _ h => by cases h) (by kernel_rfl) (fun _ h => by cases h) fnRenamed_row_tie rfl ⟨rfl, rfl⟩ (by kernel_rfl) rfl fnRenamed.plain (by kernel_rfl)
#print axioms fnRenamed_card
end Go.Proofs.YtpodifbgfcclbaaGreatDoor
