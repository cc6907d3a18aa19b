/- Contracts of the small functions on a connection's context: it is laid as a new block. -/
import Derived.Test.YtoaajnhbcekglaaDoorBase
import Derived.Test.YtoaajnhbcekglaaDoorProg
import Derived.Outline
namespace Go.Proofs.YtoaajnhbcekglaaDoor
open Go Go.RowKit

/-- A context, as data. -/
structure Ctx where
  ver : Int
  lo : Int
  opt : Int
  our : Int
  his : Int
  a0 : Int
  a1 : Int
  sdu : Int
  tdu : Int
  done : Bool

def Ctx.val (c : Ctx) : Value := .agg #[.int .u16 c.ver, .int .u16 c.lo, .int .u16 c.opt, .int .u16 c.our, .int .u16 c.his, .int .u8 c.a0, .int .u8 c.a1, .int .u32 c.sdu, .int .u32 c.tdu, .bool c.done]

/-- The cells of the context that the package holds: its connection data, and the three numbers that a packet CONNECT sets. -/
def Ctx.cells (c : Ctx) (data : ByteArray) : Array Value :=
  #[.slice none 0 0, .string data, .int .u16 c.ver, .int .u16 c.lo, .int .u16 c.opt, .int .u16 0, .int .u16 c.our, .int .u16 c.his, .string ByteArray.empty, .bool c.done, .int .u8 c.a0, .int .u8 c.a1, .int .u32 c.sdu, .int .u32 c.tdu, .bool false, .bool false, .bool false, .bool false]

theorem contextOf (c : Ctx) (w : World) :
    Calls Tryd.prog 28 #[c.val] w fun e w' => ∃ b, e = .returned (.pointer (some ⟨b, 0, none⟩)) ∧ w.heap.size ≤ b ∧ w'.heap[b]? = some (.cells (c.cells ByteArray.empty) 93 (0, 0)) ∧ Gr w w' := by
  unfold Ctx.val
  go_enter Tryd.func28, Tryd.ntmps28
  go_wp2
  go_end0
  go_wp2
  go_ret
  exact ⟨w.heap.size + 1, rfl, by omega, heap_new_at (w.alloc _) _ (by simp), ((Gr.refl w).alloc _).alloc _⟩

end Go.Proofs.YtoaajnhbcekglaaDoor
