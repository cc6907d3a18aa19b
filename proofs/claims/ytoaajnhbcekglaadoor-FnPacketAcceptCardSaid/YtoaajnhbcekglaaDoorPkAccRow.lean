/- The law FnPacketAccept returns true whatever its arguments are, and leaves them as they were: the row, and its tied card. The row's own condition: the variables of its list read as the program's text lays them. -/
import Derived.Test.YtoaajnhbcekglaaDoorPkAh
import Derived.Test.YtoaajnhbcekglaaDoorLaw
import Derived.Test.YtoaajnhbcekglaaDoorCards
import Derived.Test.YtoaajnhbcekglaaDoorTie
namespace Go.Proofs.YtoaajnhbcekglaaDoor.pkAccept
open Go Go.ChangeShapes Go.WideShapes Go.ChangeAt Go.RowKit

theorem own : ownKnob Tryd.prog.godebug = none := by kernel_rfl

set_option maxRecDepth 100000 in
theorem contract (H : Type) (enc : TypeId × Value → H) (W : World) (base : Nat) (args : Array Value) (ds gs : List (DataW H)) (before : List MemPlace)
    (hval : ∀ (j : Nat) t v, Tryd.f8.params[j]? = some t → args[j]? = some v → Value.okWide Tryd.prog W .any base t v)
    (hW : DataW.Whole enc Tryd.prog Tryd.f8.params.toList Rows.fnPacketAcceptSpec.vars false W args.toList ds gs before)
    (_hsz : (DataW.weightsEach Tryd.prog (Tryd.f8.params.toList ++ (OpenSpec.ofChange Rows.fnPacketAcceptSpec).bare.plain.varTypes Tryd.prog) (ds ++ gs)).all (· ≤ reachBytes) = true) :
    Calls Tryd.prog 8 args W fun e W' => ∃ v, e = .returned v ∧ Rows.fnPacketAcceptSpec.post enc Tryd.prog Tryd.f8 false true false false W args v W' := by
  have hW' := hW
  obtain ⟨p, q, hA, hV, rfl, hfz, hnd⟩ := hW
  rw [Tryd.params8] at hA hval
  obtain ⟨v0, vs0, d0, ds0, p0, q0, hargs, rfl, rfl, h0, r0⟩ := trodAll_cons hA
  obtain ⟨rfl, rfl, rfl⟩ := trodAll_nil r0
  obtain rfl : args = #[v0] := by cases args; simp_all
  obtain ⟨rfl, rfl⟩ := trodVars_none hV
  obtain ⟨V0, TY, FL, O, V8, V10, V16, A0, A1, S, T, AD, u, ys, rfl, hd, bV0, bFL, bV8, bV10, bV16, bA0, bA1, bS, bT⟩ := open_acc (hval 0 _ v0 rfl rfl) h0
  refine (law_accept V0 TY FL O V8 V10 V16 A0 A1 S T AD u ys W hd bV0 bFL bV8 bV10 bV16 bA0 bA1 bS bT).mono fun e W' ⟨he, hg⟩ => ?_
  exact ⟨_, he, law_post (by kernel_rfl) (by kernel_rfl) rfl rfl Tryd.underlying4 rfl hW' hg⟩

-- ROW
noncomputable def theArgs : Array Value := #[.agg #[.int .u32 0, .int .u8 0, .int .u8 0, .int .u16 0, .int .u16 0, .int .u16 0, .int .u16 0, .int .u8 0, .int .u8 0, .int .u32 0, .int .u32 0, .string ⟨#[]⟩, .slice none 0 0]]
theorem laid_met (os : Os) : laidMetH Tryd.prog Rows.fnPacketAcceptRow.laid ((World.doorLaid Tryd.prog 400 os).forCall (fun _ _ => 0) ⟨#[], theArgs, []⟩).memory :=
  laidMetH_of_parts3 (fuel := 8) (laidMet_of_run' 8 (by kernel_rfl) (by kernel_rfl)) (by kernel_rfl) (by kernel_rfl)

set_option maxRecDepth 100000 in
theorem lifted (os : Os) (started : os.Started) (H : Type) (enc : TypeId × Value → H) (F : Stop.Interp) :
    ReturnsInHanded {} Tryd.checked os 8 .any ((OpenSpec.ofChange Rows.fnPacketAcceptSpec).preRow enc Tryd.prog Tryd.f8 Rows.fnPacketAcceptRow.domain false Rows.fnPacketAcceptRow.laid) (((OpenSpec.ofChange Rows.fnPacketAcceptSpec).at F).post enc Tryd.prog Tryd.f8 false true false false) := by
  have hx : ∃ x, DataW.whole enc Tryd.prog ((World.doorLaid Tryd.prog 400 os).forCall (fun _ _ => 0) ⟨#[], theArgs, []⟩).memory Tryd.f8.params.toList Rows.fnPacketAcceptSpec.vars false theArgs.toList 8 = some x := Option.isSome_iff_exists.1 (by kernel_rfl)
  obtain ⟨x, hx⟩ := hx
  refine returnsInHanded_of_row (C := Tryd.checked) (s := OpenSpec.ofChange Rows.fnPacketAcceptSpec) own started (by kernel_rfl) Tryd.func8
    (witness_row_atRef (enc := enc) (C := Tryd.checked) false (World.doorLaid Tryd.prog 400 os) theArgs rfl (by kernel_rfl) (by kernel_rfl) (by kernel_rfl)
      (OpenSpec.preRow_of_cond 8 hx (by kernel_rfl) (fun k hk => by cases hk) (by kernel_rfl) (laid_met os))) ?_
  intro W base args ds gs before hval hW _ _ hsz _ _ _
  exact contract H enc W base args ds gs before hval hW hsz

theorem said : Rows.FnPacketAcceptSaid :=
  OpenClaim.holds_of_cond 8 Tryd.f8 rfl rfl rfl rfl rfl rfl rfl ⟨rfl, rfl, rfl, rfl, rfl⟩ rfl rfl rfl rfl rfl (by kernel_rfl) Tryd.func8 (by kernel_rfl)
    (of_decide_eq_true (by kernel_rfl)) (by unfold Func.isWrapper; first | (rw [if_pos (by decide +kernel)]; kernel_rfl) | (rw [if_neg (by decide +kernel)]; exact ⟨rfl, rfl⟩))
    (fun os started H enc _ F => by rw [OpenClaim.pre_eq_preRow]; exact lifted os started H enc F)

theorem plain (f : FuncId) (fn : Func) (hf : Tryd.pinned.checked.prog.funcNamed "pub-dodona/laws.FnPacketAccept" = some f) (hfn : Tryd.pinned.checked.prog.funcs[f]? = some fn) :
    false = Tryd.pinned.checked.prog.looks [] ∧ ∀ (j : Nat) t, fn.params[j]? = some t → Tryd.pinned.checked.prog.wantsStandIn t = false := by
  obtain rfl : f = 8 := Option.some.inj ((show Tryd.prog.funcNamed "pub-dodona/laws.FnPacketAccept" = some 8 by kernel_rfl).symm.trans hf) |>.symm
  obtain rfl : fn = Tryd.f8 := (Option.some.inj (Tryd.func8.symm.trans hfn)).symm
  refine ⟨by kernel_rfl, fun j t ht => ?_⟩
  have hall : (Tryd.f8.params.toList.all fun u => !Tryd.prog.wantsStandIn u) = true := by kernel_rfl
  have := List.all_eq_true.1 hall t (by have := Array.mem_of_getElem? ht; simpa using this)
  exact (show Tryd.prog.wantsStandIn t = false by simpa using this)

/-- The card. -/
theorem card : Rows.FnPacketAcceptCardSaid :=
  Claim7.holds_tied_plain_at .later [] _ _ _ _ said (fun _ h => by cases h) (by kernel_rfl) (fun _ h => by cases h) fnPacketAccept_row_tie rfl ⟨rfl, rfl⟩ (by kernel_rfl) rfl plain (by kernel_rfl)
#print axioms card
end Go.Proofs.YtoaajnhbcekglaaDoor.pkAccept
