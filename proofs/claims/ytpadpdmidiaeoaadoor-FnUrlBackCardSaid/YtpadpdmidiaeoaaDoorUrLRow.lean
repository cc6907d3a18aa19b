/- The law FnUrlBack returns true whatever its arguments are, and leaves them as they were: the row, and its tied card. The row's own condition: the variables of its list read as the program's text lays them. -/
import Derived.Test.YtpadpdmidiaeoaaDoorUrL
import Derived.Test.YtpadpdmidiaeoaaDoorTabs
import Derived.Test.YtpadpdmidiaeoaaDoorWitS
import Derived.Test.YtpadpdmidiaeoaaDoorLaw
import Derived.Test.YtpadpdmidiaeoaaDoorWitS
import Derived.Test.YtpadpdmidiaeoaaDoorCards
import Derived.Test.YtpadpdmidiaeoaaDoorTie
import Derived.ChangeMaps5
namespace Go.Proofs.YtpadpdmidiaeoaaDoor.urBack
open Go Go.ChangeShapes Go.WideShapes Go.ChangeAt Go.RowKit

theorem own : ownKnob Tryd.prog.godebug = none := by kernel_rfl

set_option maxRecDepth 100000 in
theorem contract (H : Type) (enc : TypeId × Value → H) (W : World) (base : Nat) (args : Array Value) (ds gs : List (DataW H)) (before : List MemPlace)
    (hval : ∀ (j : Nat) t v, Tryd.f4.params[j]? = some t → args[j]? = some v → Value.okWide Tryd.prog W .any base t v)
    (hW : DataW.Whole enc Tryd.prog Tryd.f4.params.toList Rows.fnUrlBackSpec.vars false W args.toList ds gs before)
    (_hsz : (DataW.weightsEach Tryd.prog (Tryd.f4.params.toList ++ (OpenSpec.ofChange Rows.fnUrlBackSpec).bare.plain.varTypes Tryd.prog) (ds ++ gs)).all (· ≤ reachBytes) = true)
    (_hlaid : laidMetH Tryd.prog Rows.fnUrlBackRow.laid W) :
    Calls Tryd.prog 4 args W fun e W' => ∃ v, e = .returned v ∧ Rows.fnUrlBackSpec.post enc Tryd.prog Tryd.f4 false true false false W args v W' := by
  have hW' := hW
  obtain ⟨p, q, hA, hV, rfl, hfz, hnd⟩ := hW
  rw [Tryd.params4] at hA hval
  obtain ⟨v0, vs0, d0, ds0, p0, q0, hargs, rfl, rfl, h0, r0⟩ := trodAll_cons hA
  obtain ⟨v1, vs1, d1, ds1, p1, q1, rfl, rfl, rfl, h1, r1⟩ := trodAll_cons r0
  obtain ⟨v2, vs2, d2, ds2, p2, q2, rfl, rfl, rfl, h2, r2⟩ := trodAll_cons r1
  obtain ⟨v3, vs3, d3, ds3, p3, q3, rfl, rfl, rfl, h3, r3⟩ := trodAll_cons r2
  obtain ⟨v4, vs4, d4, ds4, p4, q4, rfl, rfl, rfl, h4, r4⟩ := trodAll_cons r3
  obtain ⟨rfl, rfl, rfl⟩ := trodAll_nil r4
  obtain rfl : args = #[v0, v1, v2, v3, v4] := by cases args; simp_all
  obtain ⟨rfl, rfl⟩ := trodVars_none hV
  obtain ⟨s0, rfl, rfl, rfl, _⟩ := ChangeMaps.open_string Tryd.underlying9 (hval 0 _ v0 rfl rfl) h0
  obtain ⟨n1, rfl, rfl, rfl, wn1⟩ := open_int Tryd.underlying27 (hval 1 _ v1 rfl rfl) h1
  have hn1 := bounds_u16 wn1
  obtain ⟨s2, rfl, rfl, rfl, _⟩ := ChangeMaps.open_string Tryd.underlying9 (hval 2 _ v2 rfl rfl) h2
  obtain ⟨s3, rfl, rfl, rfl, _⟩ := ChangeMaps.open_string Tryd.underlying9 (hval 3 _ v3 rfl rfl) h3
  obtain ⟨s4, rfl, rfl, rfl, _⟩ := ChangeMaps.open_string Tryd.underlying9 (hval 4 _ v4 rfl rfl) h4
  refine (lawUrlBack s0 s2 s3 s4 n1 hn1 W (tabU_of (by kernel_rfl) _hlaid) (tab10_of (by kernel_rfl) _hlaid)).mono fun e W' ⟨he, hg⟩ => ?_
  exact ⟨_, he, law_post (by kernel_rfl) (by kernel_rfl) rfl rfl Tryd.underlying4 rfl hW' hg⟩

-- ROW
noncomputable def theArgs : Array Value := #[.string ⟨#[]⟩, .int .u16 0, .string ⟨#[]⟩, .string ⟨#[]⟩, .string ⟨#[]⟩]
theorem laid_met (os : Os) : laidMetH Tryd.prog Rows.fnUrlBackRow.laid ((World.laidAll Tryd.prog os Rows.fnUrlBackRow.laid).forCall (fun _ _ => 0) ⟨#[], theArgs, []⟩).memory :=
  by rw [MakeChecks.laidMetH_plain _ _ _ (by kernel_rfl)]; exact laidMet_laidAll _ (by kernel_rfl) (by kernel_rfl)

set_option maxRecDepth 100000 in
theorem lifted (os : Os) (started : os.Started) (H : Type) (enc : TypeId × Value → H) (F : Stop.Interp) :
    ReturnsInHanded {} Tryd.checked os 4 .any ((OpenSpec.ofChange Rows.fnUrlBackSpec).preRow enc Tryd.prog Tryd.f4 Rows.fnUrlBackRow.domain false Rows.fnUrlBackRow.laid) (((OpenSpec.ofChange Rows.fnUrlBackSpec).at F).post enc Tryd.prog Tryd.f4 false true false false) := by
  have hx : ∃ x, DataW.whole enc Tryd.prog ((World.laidAll Tryd.prog os Rows.fnUrlBackRow.laid).forCall (fun _ _ => 0) ⟨#[], theArgs, []⟩).memory Tryd.f4.params.toList Rows.fnUrlBackSpec.vars false theArgs.toList 8 = some x := Option.isSome_iff_exists.1 (by kernel_rfl)
  obtain ⟨x, hx⟩ := hx
  refine returnsInHanded_of_row (C := Tryd.checked) (s := OpenSpec.ofChange Rows.fnUrlBackSpec) own started (by kernel_rfl) Tryd.func4
    (witness_row_shaped (enc := enc) (C := Tryd.checked) (World.laidAll Tryd.prog os Rows.fnUrlBackRow.laid) theArgs (World.laidAll_os _ _ _) (World.shaped_of_ZipB (by kernel_rfl) (by kernel_rfl)) (by kernel_rfl)
      (OpenSpec.preRow_of_cond 8 hx (by kernel_rfl) (fun k hk => by cases hk) (by kernel_rfl) (laid_met os))) ?_
  intro W base args ds gs before hval hW _ _ hsz hlaid _ _
  exact contract H enc W base args ds gs before hval hW hsz hlaid

theorem said : Rows.FnUrlBackSaid :=
  OpenClaim.holds_of_cond 4 Tryd.f4 rfl rfl rfl rfl rfl rfl rfl ⟨rfl, rfl, rfl, rfl, rfl⟩ rfl rfl rfl rfl rfl (by kernel_rfl) Tryd.func4 (by kernel_rfl)
    (of_decide_eq_true (by kernel_rfl)) (by unfold Func.isWrapper; first | (rw [if_pos (by decide +kernel)]; kernel_rfl) | (rw [if_neg (by decide +kernel)]; exact ⟨rfl, rfl⟩))
    (fun os started H enc _ F => by rw [OpenClaim.pre_eq_preRow]; exact lifted os started H enc F)

theorem plain (f : FuncId) (fn : Func) (hf : Tryd.pinned.checked.prog.funcNamed "pub-dodona/laws.FnUrlBack" = some f) (hfn : Tryd.pinned.checked.prog.funcs[f]? = some fn) :
    true = Tryd.pinned.checked.prog.looks [] ∧ ∀ (j : Nat) t, fn.params[j]? = some t → Tryd.pinned.checked.prog.wantsStandIn t = false := by
  obtain rfl : f = 4 := Option.some.inj ((show Tryd.prog.funcNamed "pub-dodona/laws.FnUrlBack" = some 4 by kernel_rfl).symm.trans hf) |>.symm
  obtain rfl : fn = Tryd.f4 := (Option.some.inj (Tryd.func4.symm.trans hfn)).symm
  refine ⟨by kernel_rfl, fun j t ht => ?_⟩
  have hall : (Tryd.f4.params.toList.all fun u => !Tryd.prog.wantsStandIn u) = true := by kernel_rfl
  have := List.all_eq_true.1 hall t (by have := Array.mem_of_getElem? ht; simpa using this)
  exact (show Tryd.prog.wantsStandIn t = false by simpa using this)

/-- The card. -/
theorem card : Rows.FnUrlBackCardSaid :=
  Claim7.holds_tied_plain_at .later [] _ _ _ _ said (fun _ h => by cases h) (by kernel_rfl) (fun _ h => by cases h) fnUrlBack_row_tie rfl ⟨rfl, rfl⟩ (by kernel_rfl) rfl plain (by kernel_rfl)
#print axioms card
end Go.Proofs.YtpadpdmidiaeoaaDoor.urBack
