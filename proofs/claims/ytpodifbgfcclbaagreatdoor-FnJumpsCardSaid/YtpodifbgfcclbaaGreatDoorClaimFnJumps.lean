/- FnJumps: the law answers true, whatever the input, and its arguments read as before. -/
import Derived.Test.YtpodifbgfcclbaaGreatDoorFrm1
import Derived.Test.YtpodifbgfcclbaaGreatDoorLawJmps
set_option linter.unusedVariables false
set_option linter.unusedSimpArgs false
namespace Go.Proofs.YtpodifbgfcclbaaGreatDoor.fnJumps
open Go.ChangeShapes Go.WideShapes Go.ChangeAt Go.RowKit

set_option maxRecDepth 100000 in
theorem contract (H : Type) (enc : TypeId × Value → H) (W : World) (base : Nat) (args : Array Value) (ds gs : List (DataW H)) (before : List MemPlace)
    (hval : ∀ (j : Nat) t v, Tryz.f12.params[j]? = some t → args[j]? = some v → Value.okWide Tryz.prog W .any base t v)
    (hW : DataW.Whole enc Tryz.prog Tryz.f12.params.toList Rows.fnJumpsSpec.vars false W args.toList ds gs before)
    (hZ : (DataW.weightsEach Tryz.prog (Tryz.f12.params.toList ++ (OpenSpec.ofChange Rows.fnJumpsSpec).bare.plain.varTypes Tryz.prog) (ds ++ gs)).all (· ≤ reachBytes) = true) (hL : laidMetH Tryz.prog Rows.fnJumpsRow.laid W) :
    Calls Tryz.prog 12 args W fun e W' => ∃ v, e = .returned v ∧ Rows.fnJumpsSpec.post enc Tryz.prog Tryz.f12 false true false false W args v W' := by
  have hW' := hW
  obtain ⟨p, q, hA0, hV, rfl, hfz, hnd⟩ := hW
  obtain ⟨rfl, rfl⟩ := trodVars_none hV
  have hA : DataW.TrodAll enc Tryz.prog W 0 (fun _ => true) true Tryz.f12.params.toList args.toList ds p := hA0
  have hZ' : ∀ n ∈ DataW.weightsEach Tryz.prog (Tryz.f12.params.toList ++ (OpenSpec.ofChange Rows.fnJumpsSpec).bare.plain.varTypes Tryz.prog) (ds ++ []), n ≤ reachBytes := fun n hn => of_decide_eq_true (List.all_eq_true.1 hZ n hn)
  rw [Tryz.params12] at hA hval hZ'
  obtain ⟨v0, vs0, d0, ds0, p0, q0, hargs, rfl, rfl, h0, r0⟩ := trodAll_cons hA
  obtain ⟨rfl, rfl, rfl⟩ := trodAll_nil r0
  obtain rfl : args = #[v0] := by cases args; simp_all
  have hzw : ∀ n ∈ DataW.weightsEach Tryz.prog [22] [d0], n ≤ reachBytes := fun n hn => hZ' n (by
    rw [List.append_nil]
    exact hn)
  obtain ⟨a0, c0, l, rfl, hs0⟩ := open_list (hval 0 22 v0 rfl rfl) h0 (fun n hn => hzw n (by simp only [DataW.weightsEach, List.mem_append]; exact .inl hn))
  refine (fnJumps_any l a0 c0 W hs0 (tab_of hL)).mono fun e W' he => ?_
  obtain ⟨rfl, hb⟩ := he
  exact ⟨_, rfl, post_true hW' rfl (by
    rw [Tryz.params12]
    intro t ht
    simp only [List.mem_cons, List.mem_singleton, List.not_mem_nil, or_false] at ht
    subst ht; first | exact read22 | exact read25 | exact read27 | exact read3 | exact read4) (by kernel_rfl) (fun _ => ⟨rfl, rfl, rfl⟩) hb⟩
theorem laid_met (os : Os) : laidMet Tryz.prog Rows.fnJumpsRow.laid ((laidWorld os).forCall (fun _ _ => 0) ⟨#[], #[.slice none 0 0], []⟩).memory :=
  laidMet_of_run' 8 (by kernel_rfl) (by kernel_rfl)
theorem reads (os : Os) {H : Type} (enc : TypeId × Value → H) : ∃ places, DataW.whole enc Tryz.prog ((laidWorld os).forCall (fun _ _ => 0) ⟨#[], #[.slice none 0 0], []⟩).memory Tryz.f12.params.toList Rows.fnJumpsSpec.vars false (#[.slice none 0 0] : Array Value).toList 8 = some ([.nil], [], places) :=
  ⟨[], by kernel_rfl⟩
set_option maxRecDepth 100000 in
theorem lifted (os : Os) (started : os.Started) (H : Type) (enc : TypeId × Value → H) (F : Stop.Interp) :
    ReturnsInHanded {} Tryz.checked os 12 .any ((OpenSpec.ofChange Rows.fnJumpsSpec).preRow enc Tryz.prog Tryz.f12 Rows.fnJumpsRow.domain false Rows.fnJumpsRow.laid) (((OpenSpec.ofChange Rows.fnJumpsSpec).at F).post enc Tryz.prog Tryz.f12 false true false false) := by
  obtain ⟨places, hx⟩ := reads os enc
  refine returnsInHanded_of_row (C := Tryz.checked) (s := OpenSpec.ofChange Rows.fnJumpsSpec) ownKnob0 started (by kernel_rfl) Tryz.func12
    (witness_row_at (enc := enc) (C := Tryz.checked) false (laidWorld os) #[.slice none 0 0] rfl (by kernel_rfl) (by kernel_rfl) (by kernel_rfl)
      (OpenSpec.preRow_of_cond 8 hx (by kernel_rfl) (fun k hk => by cases hk) (by kernel_rfl) (laid_met os))) ?_
  intro W base args ds gs before hval hW _ _ hZ hL _ _
  exact contract H enc W base args ds gs before hval hW hZ hL
theorem said : Rows.FnJumpsSaid :=
  OpenClaim.holds_of_cond 12 Tryz.f12 rfl rfl rfl rfl rfl rfl rfl ⟨rfl, rfl, rfl, rfl, rfl⟩ rfl rfl rfl rfl rfl (by kernel_rfl) Tryz.func12 (by kernel_rfl)
    (of_decide_eq_true (by kernel_rfl)) (by unfold Func.isWrapper; first | (rw [if_pos (by decide +kernel)]; kernel_rfl) | (rw [if_neg (by decide +kernel)]; exact ⟨rfl, rfl⟩))
    (fun os started H enc _ F => by rw [OpenClaim.pre_eq_preRow]; exact lifted os started H enc F)
theorem plain (f : FuncId) (fn : Func) (hf : Tryz.pinned.checked.prog.funcNamed "fieldgate/laws.FnJumps" = some f) (hfn : Tryz.pinned.checked.prog.funcs[f]? = some fn) :
    true = Tryz.pinned.checked.prog.looks [] ∧ ∀ (j : Nat) t, fn.params[j]? = some t → Tryz.pinned.checked.prog.wantsStandIn t = false := by
  obtain rfl : f = 12 := Option.some.inj ((show Tryz.prog.funcNamed "fieldgate/laws.FnJumps" = some 12 by kernel_rfl).symm.trans hf) |>.symm
  obtain rfl : fn = Tryz.f12 := (Option.some.inj (Tryz.func12.symm.trans hfn)).symm
  refine ⟨by kernel_rfl, fun j t ht => ?_⟩
  rw [Tryz.params12] at ht
  have hm := Array.mem_of_getElem? ht
  simp only [List.mem_toArray, List.mem_cons, List.mem_singleton, List.not_mem_nil, or_false] at hm
  subst hm
  exact (show Tryz.prog.wantsStandIn 22 = false by kernel_rfl)
end Go.Proofs.YtpodifbgfcclbaaGreatDoor.fnJumps
namespace Go.Proofs.YtpodifbgfcclbaaGreatDoor
/-- The card. -/
theorem fnJumps_card : Rows.FnJumpsCardSaid :=
  Claim7.holds_tied_plain_at .later [] _ _ _ _ fnJumps.said (fun _ h => by cases h) (by kernel_rfl) (fun _ h => by cases h) fnJumps_row_tie rfl ⟨rfl, rfl⟩ (by kernel_rfl) rfl fnJumps.plain (by kernel_rfl)
#print axioms fnJumps_card
end Go.Proofs.YtpodifbgfcclbaaGreatDoor
