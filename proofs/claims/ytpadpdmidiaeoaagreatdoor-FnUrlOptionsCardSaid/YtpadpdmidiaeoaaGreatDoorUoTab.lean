/- The table of blanks out of the row's list; the law for the row. -/
import Derived.Test.YtpadpdmidiaeoaaGreatDoorUoR
import Derived.Test.YtpadpdmidiaeoaaGreatDoorTabs
namespace Go.Proofs.YtpadpdmidiaeoaaGreatDoor
open Go Go.ChangeShapes Go.WideShapes Go.ChangeAt Go.RowKit

theorem tabS_of {l : List (String × DataW Unit)} (e : l.filter (fun x => x.1 == "strings.asciiSpace") = [("strings.asciiSpace", Lib.tabData .u8 spTab)]) {W : World} (h : laidMetH Tryz.prog l W) : TabS W := by
  have h1 := laidMetH.filter (fun x => x.1 == "strings.asciiSpace") h
  rw [e, MakeChecks.laidMetH_plain _ _ _ (by rfl)] at h1
  exact Lib.tabIs_of_head (g := 0) (t := 80) (e := 5) (n := 256) (by kernel_rfl) (by kernel_rfl) (by kernel_rfl) (by kernel_rfl) (by kernel_rfl) (by kernel_rfl) h1

theorem lawO' (s : ByteArray) (n : Int) (hn : 0 ≤ n ∧ n ≤ 65535) (v : Value) (l : List Op) (w : World) (hv : RdO w v l) (hu : TabU w) (ht : Tab10 w) (hs : TabS w) :
    Calls Tryz.prog 3 #[.string s, .int .u16 n, v] w fun e w' => e = .returned (.bool true) ∧ Gr w w' := by
  have h := lawO s.data.toList n v l w hn.1 hn.2 hv hu ht hs
  rwa [bs_of] at h
end Go.Proofs.YtpadpdmidiaeoaaGreatDoor
