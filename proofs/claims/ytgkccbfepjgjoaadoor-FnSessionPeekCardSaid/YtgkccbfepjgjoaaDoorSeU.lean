/- From a row's list of variables to the error of a torn input. -/
import Derived.Test.YtgkccbfepjgjoaaDoorSeMa
import Derived.Stop.LaidErr
import Derived.LaidSub
import Derived.MakeChecks
namespace Go.Proofs.YtgkccbfepjgjoaaDoor
open Go Go.ChangeShapes Go.WideShapes Go.ChangeAt Go.RowKit

theorem endStar : "*" ++ "errors.errorString" = "*errors.errorString" := by decide
theorem endRow (u : TypeId) (h : Tryd.prog.typeName? 3 u = some "*errors.errorString") : u = 139 :=
  typeName_ptr_named (nm := "errors.errorString") (by rw [endStar]; kernel_rfl) (by kernel_rfl) (by decide) u (by rw [endStar]; exact h)
theorem endE_of {l : List (String × DataW Unit)} {text : List UInt8} (e : l.filter (fun x => x.1 == "pub-dodona/pub/goora/network.errEnd") = [("pub-dodona/pub/goora/network.errEnd", .iface "*errors.errorString" (.ptr (.agg [.lit (.string text)])))])
    {W : World} (h : laidMetH Tryd.prog l W) : ∃ E, EndE W E := by
  have h1 := laidMetH.filter (fun x => x.1 == "pub-dodona/pub/goora/network.errEnd") h
  rw [e, MakeChecks.laidMetH_plain _ _ _ (by rfl)] at h1
  have hg : Tryd.prog.globalNamed "pub-dodona/pub/goora/network.errEnd" = some 3 := by kernel_rfl
  obtain ⟨a, s, hv, _⟩ := laid_sentinel (ti := 104) (tp := 139) (te := 141) (ts := 9) h1 hg (by kernel_rfl) Tryd.underlying104 endRow Tryd.underlying139 Tryd.underlying141 rfl rfl Tryd.underlying9 (by kernel_rfl) (by kernel_rfl)
  exact ⟨_, ⟨_, _, rfl⟩, by simpa using World.var?_cell hg hv 0⟩
end Go.Proofs.YtgkccbfepjgjoaaDoor
