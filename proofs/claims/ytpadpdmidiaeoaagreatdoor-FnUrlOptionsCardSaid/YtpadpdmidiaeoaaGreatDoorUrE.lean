/- The laws' fixed address. -/
import Derived.Test.YtpadpdmidiaeoaaGreatDoorUrD
namespace Go.Proofs.YtpadpdmidiaeoaaGreatDoor
open Go Go.RowKit

set_option maxRecDepth 100000 in
theorem urlAwake (w : World) (hu : TabU w) (ht : Tab10 w) : Calls Tryz.prog 6 #[] w fun e w' => e = .returned (.bool true) ∧ Gr w w' := by
  have HN := implUrl [104] [115] [117] [112, 47] 1 (by omega) (by omega) (by decide) (by decide) (by decide) (by decide) w hu ht
  rw [show bs (urlL [104] (Lib.itoa 1) [115] [117] [112, 47]) = ⟨#[111, 114, 97, 99, 108, 101, 58, 47, 47, 117, 58, 112, 37, 50, 70, 64, 104, 58, 49, 47, 115]⟩ by decide +kernel] at HN
  have HN := Lib.hid (show Calls Tryz.prog 13 #[.string ⟨#[104]⟩, .int .i64 1, .string ⟨#[115]⟩, .string ⟨#[117]⟩, .string ⟨#[112, 47]⟩, .slice none 0 0] w _ from HN)
  have hq : ((⟨#[111, 114, 97, 99, 108, 101, 58, 47, 47, 117, 58, 112, 37, 50, 70, 64, 104, 58, 49, 47, 115]⟩ : ByteArray).toList == (⟨#[111, 114, 97, 99, 108, 101, 58, 47, 47, 117, 58, 112, 37, 50, 70, 64, 104, 58, 49, 47, 115]⟩ : ByteArray).toList) = true := by simp
  clear hu ht
  go_enter Tryz.func6, Tryz.ntmps6
  go_wp2_with (first
    | (go_at_call 13; go_must (with_reducible refine HN.out.mono ?_); rintro e w1 ⟨rfl, hg1⟩))
  go_ret
  exact ⟨rfl, hg1⟩
end Go.Proofs.YtpadpdmidiaeoaaGreatDoor
