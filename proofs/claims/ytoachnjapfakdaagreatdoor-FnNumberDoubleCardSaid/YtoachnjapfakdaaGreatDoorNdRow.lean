/- The law FnNumberDouble returns true whatever its arguments are, and leaves them as they were: the row, and its tied card. The row's own condition: the variables of its list read as the program's text lays them. -/
import Derived.Test.YtoachnjapfakdaaGreatDoorNdR
import Derived.Test.YtoachnjapfakdaaGreatDoorNdT
import Derived.Test.YtoachnjapfakdaaGreatDoorWitS
import Derived.Test.YtoachnjapfakdaaGreatDoorLaw
import Derived.Test.YtoachnjapfakdaaGreatDoorWitS
import Derived.Test.YtoachnjapfakdaaGreatDoorCards
import Derived.Test.YtoachnjapfakdaaGreatDoorTie
namespace Go.Proofs.YtoachnjapfakdaaGreatDoor.ndDouble
open Go Go.ChangeShapes Go.WideShapes Go.ChangeAt Go.RowKit

theorem own : ownKnob Tryz.prog.godebug = none := by kernel_rfl

set_option maxRecDepth 100000 in
theorem contract (H : Type) (enc : TypeId × Value → H) (W : World) (base : Nat) (args : Array Value) (ds gs : List (DataW H)) (before : List MemPlace)
    (hval : ∀ (j : Nat) t v, Tryz.f3.params[j]? = some t → args[j]? = some v → Value.okWide Tryz.prog W .any base t v)
    (hW : DataW.Whole enc Tryz.prog Tryz.f3.params.toList Rows.fnNumberDoubleSpec.vars false W args.toList ds gs before)
    (_hsz : (DataW.weightsEach Tryz.prog (Tryz.f3.params.toList ++ (OpenSpec.ofChange Rows.fnNumberDoubleSpec).bare.plain.varTypes Tryz.prog) (ds ++ gs)).all (· ≤ reachBytes) = true)
    (_hlaid : laidMetH Tryz.prog Rows.fnNumberDoubleRow.laid W) :
    Calls Tryz.prog 3 args W fun e W' => ∃ v, e = .returned v ∧ Rows.fnNumberDoubleSpec.post enc Tryz.prog Tryz.f3 false true false false W args v W' := by
  have hW' := hW
  obtain ⟨p, q, hA, hV, rfl, hfz, hnd⟩ := hW
  rw [Tryz.params3] at hA hval
  obtain ⟨v0, vs0, d0, ds0, p0, q0, hargs, rfl, rfl, h0, r0⟩ := trodAll_cons hA
  obtain ⟨rfl, rfl, rfl⟩ := trodAll_nil r0
  obtain rfl : args = #[v0] := by cases args; simp_all
  obtain ⟨rfl, rfl⟩ := trodVars_none hV
  obtain ⟨n0, rfl, rfl, rfl, wn0⟩ := open_int Tryz.underlying2 (hval 0 _ v0 rfl rfl) h0
  have hn0 := bounds_i64 wn0
  refine (law_double n0 hn0 W (powT_of (by kernel_rfl) _hlaid) (tab10_of (by kernel_rfl) _hlaid) (powF_of (by kernel_rfl) (by kernel_rfl) _hlaid)).mono fun e W' ⟨he, hg⟩ => ?_
  exact ⟨_, he, law_post (by kernel_rfl) (by kernel_rfl) rfl rfl Tryz.underlying4 rfl hW' hg⟩

-- ROW
noncomputable def theArgs : Array Value := #[.int .i64 0]
theorem laid_met (os : Os) : laidMetH Tryz.prog Rows.fnNumberDoubleRow.laid ((World.laidAll Tryz.prog os Rows.fnNumberDoubleRow.laid).forCall (fun _ _ => 0) ⟨#[], theArgs, []⟩).memory :=
  by rw [MakeChecks.laidMetH_plain _ _ _ (by kernel_rfl)]; exact laidMet_laidAll _ (by kernel_rfl) (by kernel_rfl)

set_option maxRecDepth 100000 in
theorem lifted (os : Os) (started : os.Started) (H : Type) (enc : TypeId × Value → H) (F : Stop.Interp) :
    ReturnsInHanded {} Tryz.checked os 3 .any ((OpenSpec.ofChange Rows.fnNumberDoubleSpec).preRow enc Tryz.prog Tryz.f3 Rows.fnNumberDoubleRow.domain false Rows.fnNumberDoubleRow.laid) (((OpenSpec.ofChange Rows.fnNumberDoubleSpec).at F).post enc Tryz.prog Tryz.f3 false true false false) := by
  have hx : ∃ x, DataW.whole enc Tryz.prog ((World.laidAll Tryz.prog os Rows.fnNumberDoubleRow.laid).forCall (fun _ _ => 0) ⟨#[], theArgs, []⟩).memory Tryz.f3.params.toList Rows.fnNumberDoubleSpec.vars false theArgs.toList 8 = some x := Option.isSome_iff_exists.1 (by kernel_rfl)
  obtain ⟨x, hx⟩ := hx
  refine returnsInHanded_of_row (C := Tryz.checked) (s := OpenSpec.ofChange Rows.fnNumberDoubleSpec) own started (by kernel_rfl) Tryz.func3
    (witness_row_shaped (enc := enc) (C := Tryz.checked) (World.laidAll Tryz.prog os Rows.fnNumberDoubleRow.laid) theArgs (World.laidAll_os _ _ _) (World.shaped_of_ZipB (by kernel_rfl) (by kernel_rfl)) (by kernel_rfl)
      (OpenSpec.preRow_of_cond 8 hx (by kernel_rfl) (fun k hk => by cases hk) (by kernel_rfl) (laid_met os))) ?_
  intro W base args ds gs before hval hW _ _ hsz hlaid _ _
  exact contract H enc W base args ds gs before hval hW hsz hlaid

theorem said : Rows.FnNumberDoubleSaid :=
  OpenClaim.holds_of_cond 3 Tryz.f3 rfl rfl rfl rfl rfl rfl rfl ⟨rfl, rfl, rfl, rfl, rfl⟩ rfl rfl rfl rfl rfl (by kernel_rfl) Tryz.func3 (by kernel_rfl)
    (of_decide_eq_true (by kernel_rfl)) (by unfold Func.isWrapper; first | (rw [if_pos (by decide +kernel)]; kernel_rfl) | (rw [if_neg (by decide +kernel)]; exact ⟨rfl, rfl⟩))
    (fun os started H enc _ F => by rw [OpenClaim.pre_eq_preRow]; exact lifted os started H enc F)

theorem plain (f : FuncId) (fn : Func) (hf : Tryz.pinned.checked.prog.funcNamed "pub-dodona/laws.FnNumberDouble" = some f) (hfn : Tryz.pinned.checked.prog.funcs[f]? = some fn) :
    true = Tryz.pinned.checked.prog.looks [] ∧ ∀ (j : Nat) t, fn.params[j]? = some t → Tryz.pinned.checked.prog.wantsStandIn t = false := by
  obtain rfl : f = 3 := Option.some.inj ((show Tryz.prog.funcNamed "pub-dodona/laws.FnNumberDouble" = some 3 by kernel_rfl).symm.trans hf) |>.symm
  obtain rfl : fn = Tryz.f3 := (Option.some.inj (Tryz.func3.symm.trans hfn)).symm
  refine ⟨by kernel_rfl, fun j t ht => ?_⟩
  have hall : (Tryz.f3.params.toList.all fun u => !Tryz.prog.wantsStandIn u) = true := by kernel_rfl
  have := List.all_eq_true.1 hall t (by have := Array.mem_of_getElem? ht; simpa using this)
  exact (show Tryz.prog.wantsStandIn t = false by simpa using this)

/-- The card. -/
theorem card : Rows.FnNumberDoubleCardSaid :=
  Claim7.holds_tied_plain_at .later [] _ _ _ _ said (fun _ h => by cases h) (by kernel_rfl) (fun _ h => by cases h) fnNumberDouble_row_tie rfl ⟨rfl, rfl⟩ (by kernel_rfl) rfl plain (by kernel_rfl)
#print axioms card
end Go.Proofs.YtoachnjapfakdaaGreatDoor.ndDouble
