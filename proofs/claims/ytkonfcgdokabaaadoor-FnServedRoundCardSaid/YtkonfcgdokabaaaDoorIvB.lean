/- strconv.Itoa, and the table of the powers of ten. -/
import Derived.Test.YtkonfcgdokabaaaDoorCfA
import Derived.Test.YtkonfcgdokabaaaDoorShelf
import Derived.Lib.ItoaNum
import Derived.Lib.ItoaLen
import Derived.Lib.ItoaMem
import Derived.Lib.AppendIntMem
import Derived.Laws.Externs
import Derived.Deep.RegionHeld3
namespace Go.Proofs.YtkonfcgdokabaaaDoor
open Go Go.RowKit

def Tab10 (w : World) : Prop := Lib.TabIs Tryd.prog w "internal/strconv.uint64pow10" .u64 Lib.pow10Tab
theorem Tab10.gr {w w' : World} (h : Tab10 w) (g : Gr w w') : Tab10 w' := Lib.tabBelow_of_tabIs h w' g
theorem itoa (n : Int) (h0 : -9223372036854775808 ≤ n) (h1 : n ≤ 9223372036854775807) (w : World) (h : Tab10 w) :
    Calls Tryd.prog 23 #[.int .i64 n] w fun e w' => e = .returned (.string (bs (Lib.itoa n))) ∧ Gr w w' := by
  refine (Tryd.strconv_Itoa n h0 h1 w h).mono fun e w' => ?_
  rintro ⟨rfl, k, os, rfl⟩
  exact ⟨rfl, Lib.below_grow _ w (Nat.le_refl _) k os⟩

theorem indexStr (s : ByteArray) (w : World) : (callFunc 52 #[.string s, .int .u8 58]).run Tryd.prog w = .ok (.value (.int .i64 (firstIdx s 58))) w := by
  rw [run_callFunc_extern Tryd.func52 (by kernel_rfl) (by kernel_rfl) (by kernel_rfl) (e := Extern.BytealgIndexByte.indexByte) (by kernel_rfl), run_indexByte_string]
  rfl
/-- A host and a port. -/
def joinS (host port : ByteArray) : ByteArray := if 0 ≤ firstIdx host 58 then ((⟨#[91]⟩ ++ host) ++ ⟨#[93, 58]⟩) ++ port else (host ++ ⟨#[58]⟩) ++ port

set_option maxRecDepth 100000 in
theorem joinHost (host port : ByteArray) (w : World) (h1 : host.size ≤ 4000000000) (h2 : port.size ≤ 1000) :
    Calls Tryd.prog 42 #[.string host, .string port] w fun e w' => e = .returned (.string (joinS host port)) ∧ w' = w := by
  have hi := indexStr host
  have z1 : (⟨#[91]⟩ : ByteArray).size + host.size ≤ 9223372036854775807 := by show 1 + host.size ≤ _; omega
  have z2 : ((⟨#[91]⟩ : ByteArray) ++ host).size + (⟨#[93, 58]⟩ : ByteArray).size ≤ 9223372036854775807 := by rw [ByteArray.size_append]; show 1 + host.size + 2 ≤ _; omega
  have z3 : (((⟨#[91]⟩ : ByteArray) ++ host) ++ ⟨#[93, 58]⟩).size + port.size ≤ 9223372036854775807 := by rw [ByteArray.size_append, ByteArray.size_append]; show 1 + host.size + 2 + port.size ≤ _; omega
  have z4 : host.size + (⟨#[58]⟩ : ByteArray).size ≤ 9223372036854775807 := by show host.size + 1 ≤ _; omega
  have z5 : (host ++ (⟨#[58]⟩ : ByteArray)).size + port.size ≤ 9223372036854775807 := by rw [ByteArray.size_append]; show host.size + 1 + port.size ≤ _; omega
  unfold joinS
  generalize firstIdx host 58 = i at *
  by_cases h : 0 ≤ i
  · rw [if_pos h]
    go_enter Tryd.func42, Tryd.ntmps42
    go_wp2
    go_ret
    exact ⟨rfl, rfl⟩
  · rw [if_neg h]
    go_enter Tryd.func42, Tryd.ntmps42
    go_wp2
    go_ret
    exact ⟨rfl, rfl⟩
end Go.Proofs.YtkonfcgdokabaaaDoor
