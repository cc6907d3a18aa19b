/- From a row's list of variables to the tables that are read. -/
import Derived.Test.YtpadpdmidiaeoaaGreatDoorUrB
import Derived.Test.YtpadpdmidiaeoaaGreatDoorLaw
import Derived.LaidSub
import Derived.MakeChecks
import Derived.Lib.LaidTab
namespace Go.Proofs.YtpadpdmidiaeoaaGreatDoor
open Go Go.ChangeShapes Go.WideShapes Go.ChangeAt Go.RowKit

theorem tab10_of {l : List (String × DataW Unit)} (e : l.filter (fun x => x.1 == "internal/strconv.uint64pow10") = [("internal/strconv.uint64pow10", Lib.tabData .u64 Lib.pow10Tab)]) {W : World} (h : laidMetH Tryz.prog l W) : Tab10 W := by
  have h1 := laidMetH.filter (fun x => x.1 == "internal/strconv.uint64pow10") h
  rw [e, MakeChecks.laidMetH_plain _ _ _ (by rfl)] at h1
  exact Lib.tabIs_of_head (g := 5) (t := 135) (e := 66) (n := 20) (by kernel_rfl) (by kernel_rfl) (by kernel_rfl) (by kernel_rfl) (by kernel_rfl) (by kernel_rfl) h1
theorem tabU_of {l : List (String × DataW Unit)} (e : l.filter (fun x => x.1 == "net/url.table") = [("net/url.table", Lib.tabData .u8 urlTab)]) {W : World} (h : laidMetH Tryz.prog l W) : TabU W := by
  have h1 := laidMetH.filter (fun x => x.1 == "net/url.table") h
  rw [e, MakeChecks.laidMetH_plain _ _ _ (by rfl)] at h1
  exact Lib.tabIs_of_head (g := 3) (t := 115) (e := 76) (n := 256) (by kernel_rfl) (by kernel_rfl) (by kernel_rfl) (by kernel_rfl) (by kernel_rfl) (by kernel_rfl) h1
end Go.Proofs.YtpadpdmidiaeoaaGreatDoor
