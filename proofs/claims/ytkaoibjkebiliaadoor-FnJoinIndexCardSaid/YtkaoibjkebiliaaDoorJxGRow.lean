/- The law FnJoinIndex returns true whatever its arguments are, and leaves them as they were: the row, and its tied card. The row's own condition: the variables of its list read as the program's text lays them. -/
import Derived.Test.YtkaoibjkebiliaaDoorJxG
import Derived.Test.YtkaoibjkebiliaaDoorTab10
import Derived.Test.YtkaoibjkebiliaaDoorLaw
import Derived.Test.YtkaoibjkebiliaaDoorCards
import Derived.Test.YtkaoibjkebiliaaDoorTie
namespace Go.Proofs.YtkaoibjkebiliaaDoor.jxIndex
open Go Go.ChangeShapes Go.WideShapes Go.ChangeAt Go.RowKit

theorem own : ownKnob Tryd.prog.godebug = none := by kernel_rfl

set_option maxRecDepth 100000 in
theorem contract (H : Type) (enc : TypeId × Value → H) (W : World) (base : Nat) (args : Array Value) (ds gs : List (DataW H)) (before : List MemPlace)
    (hval : ∀ (j : Nat) t v, Tryd.f4.params[j]? = some t → args[j]? = some v → Value.okWide Tryd.prog W .any base t v)
    (hW : DataW.Whole enc Tryd.prog Tryd.f4.params.toList Rows.fnJoinIndexSpec.vars false W args.toList ds gs before)
    (_hsz : (DataW.weightsEach Tryd.prog (Tryd.f4.params.toList ++ (OpenSpec.ofChange Rows.fnJoinIndexSpec).bare.plain.varTypes Tryd.prog) (ds ++ gs)).all (· ≤ reachBytes) = true)
    (_hlaid : laidMetH Tryd.prog Rows.fnJoinIndexRow.laid W) :
    Calls Tryd.prog 4 args W fun e W' => ∃ v, e = .returned v ∧ Rows.fnJoinIndexSpec.post enc Tryd.prog Tryd.f4 false true false false W args v W' := by
  have hW' := hW
  obtain ⟨p, q, hA, hV, rfl, hfz, hnd⟩ := hW
  rw [Tryd.params4] at hA hval
  obtain ⟨v0, vs0, d0, ds0, p0, q0, hargs, rfl, rfl, h0, r0⟩ := trodAll_cons hA
  obtain ⟨v1, vs1, d1, ds1, p1, q1, rfl, rfl, rfl, h1, r1⟩ := trodAll_cons r0
  obtain ⟨rfl, rfl, rfl⟩ := trodAll_nil r1
  obtain rfl : args = #[v0, v1] := by cases args; simp_all
  obtain ⟨rfl, rfl⟩ := trodVars_none hV
  obtain ⟨l0, hl0⟩ := open_i64s (hval 0 _ v0 rfl rfl) h0
  obtain ⟨l1, hl1⟩ := open_i64s (hval 1 _ v1 rfl rfl) h1
  refine (lawJoinIndex _ _ l0 l1 W hl0 hl1 (tab10_of (by kernel_rfl) _hlaid)).mono fun e W' ⟨he, hg⟩ => ?_
  exact ⟨_, he, law_post (by kernel_rfl) (by kernel_rfl) rfl rfl Tryd.underlying4 rfl hW' hg⟩

-- ROW
noncomputable def theArgs : Array Value := #[.slice none 0 0, .slice none 0 0]
theorem laid_met (os : Os) : laidMetH Tryd.prog Rows.fnJoinIndexRow.laid ((World.doorLaid Tryd.prog 400 os).forCall (fun _ _ => 0) ⟨#[], theArgs, []⟩).memory :=
  laidMetH_of_parts3 (fuel := 8) (laidMet_of_run' 8 (by kernel_rfl) (by kernel_rfl)) (by kernel_rfl) (by kernel_rfl)

set_option maxRecDepth 100000 in
theorem lifted (os : Os) (started : os.Started) (H : Type) (enc : TypeId × Value → H) (F : Stop.Interp) :
    ReturnsInHanded {} Tryd.checked os 4 .any ((OpenSpec.ofChange Rows.fnJoinIndexSpec).preRow enc Tryd.prog Tryd.f4 Rows.fnJoinIndexRow.domain false Rows.fnJoinIndexRow.laid) (((OpenSpec.ofChange Rows.fnJoinIndexSpec).at F).post enc Tryd.prog Tryd.f4 false true false false) := by
  have hx : ∃ x, DataW.whole enc Tryd.prog ((World.doorLaid Tryd.prog 400 os).forCall (fun _ _ => 0) ⟨#[], theArgs, []⟩).memory Tryd.f4.params.toList Rows.fnJoinIndexSpec.vars false theArgs.toList 8 = some x := Option.isSome_iff_exists.1 (by kernel_rfl)
  obtain ⟨x, hx⟩ := hx
  refine returnsInHanded_of_row (C := Tryd.checked) (s := OpenSpec.ofChange Rows.fnJoinIndexSpec) own started (by kernel_rfl) Tryd.func4
    (witness_row_atRef (enc := enc) (C := Tryd.checked) false (World.doorLaid Tryd.prog 400 os) theArgs rfl (by kernel_rfl) (by kernel_rfl) (by kernel_rfl)
      (OpenSpec.preRow_of_cond 8 hx (by kernel_rfl) (fun k hk => by cases hk) (by kernel_rfl) (laid_met os))) ?_
  intro W base args ds gs before hval hW _ _ hsz hlaid _ _
  exact contract H enc W base args ds gs before hval hW hsz hlaid

theorem said : Rows.FnJoinIndexSaid :=
  OpenClaim.holds_of_cond 4 Tryd.f4 rfl rfl rfl rfl rfl rfl rfl ⟨rfl, rfl, rfl, rfl, rfl⟩ rfl rfl rfl rfl rfl (by kernel_rfl) Tryd.func4 (by kernel_rfl)
    (of_decide_eq_true (by kernel_rfl)) (by unfold Func.isWrapper; first | (rw [if_pos (by decide +kernel)]; kernel_rfl) | (rw [if_neg (by decide +kernel)]; exact ⟨rfl, rfl⟩))
    (fun os started H enc _ F => by rw [OpenClaim.pre_eq_preRow]; exact lifted os started H enc F)

theorem plain (f : FuncId) (fn : Func) (hf : Tryd.pinned.checked.prog.funcNamed "pub-dodona/laws.FnJoinIndex" = some f) (hfn : Tryd.pinned.checked.prog.funcs[f]? = some fn) :
    false = Tryd.pinned.checked.prog.looks [] ∧ ∀ (j : Nat) t, fn.params[j]? = some t → Tryd.pinned.checked.prog.wantsStandIn t = false := by
  obtain rfl : f = 4 := Option.some.inj ((show Tryd.prog.funcNamed "pub-dodona/laws.FnJoinIndex" = some 4 by kernel_rfl).symm.trans hf) |>.symm
  obtain rfl : fn = Tryd.f4 := (Option.some.inj (Tryd.func4.symm.trans hfn)).symm
  refine ⟨by kernel_rfl, fun j t ht => ?_⟩
  have hall : (Tryd.f4.params.toList.all fun u => !Tryd.prog.wantsStandIn u) = true := by kernel_rfl
  have := List.all_eq_true.1 hall t (by have := Array.mem_of_getElem? ht; simpa using this)
  exact (show Tryd.prog.wantsStandIn t = false by simpa using this)

/-- The card. -/
theorem card : Rows.FnJoinIndexCardSaid :=
  Claim7.holds_tied_plain_at .later [] _ _ _ _ said (fun _ h => by cases h) (by kernel_rfl) (fun _ h => by cases h) fnJoinIndex_row_tie rfl ⟨rfl, rfl⟩ (by kernel_rfl) rfl plain (by kernel_rfl)
#print axioms card
end Go.Proofs.YtkaoibjkebiliaaDoor.jxIndex
