/- FnUrlBack: the law as a whole. -/
import Derived.Test.YtpadpdmidiaeoaaDoorUrK
namespace Go.Proofs.YtpadpdmidiaeoaaDoor
open Go Go.RowKit

theorem lawUrlBack (sv se us pw : ByteArray) (n : Int) (hn : 0 ≤ n ∧ n ≤ 65535) (w : World) (hu : TabU w) (ht : Tab10 w) :
    Calls Tryd.prog 4 #[.string sv, .int .u16 n, .string se, .string us, .string pw] w fun e w' => e = .returned (.bool true) ∧ Gr w w' := by
  by_cases h : sv.size ≤ 2147483647 ∧ se.size ≤ 2147483647 ∧ us.size ≤ 2147483647 ∧ pw.size ≤ 2147483647
  · obtain ⟨h1, h2, h3, h4⟩ := h
    have e : ∀ s : ByteArray, s.data.toList.length = s.size := fun s => by rw [Array.length_toList]; rfl
    have := lawBack_fit sv.data.toList se.data.toList us.data.toList pw.data.toList n hn w hu ht (by rw [e]; exact h1) (by rw [e]; exact h2) (by rw [e]; exact h3) (by rw [e]; exact h4)
    rwa [bs_of, bs_of, bs_of, bs_of] at this
  · exact back_unfit sv se us pw n w h
end Go.Proofs.YtpadpdmidiaeoaaDoor
