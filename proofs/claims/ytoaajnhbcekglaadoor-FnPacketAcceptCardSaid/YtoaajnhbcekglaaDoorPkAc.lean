/- Packets ACCEPT: the reader. -/
import Derived.Test.YtoaajnhbcekglaaDoorPkRefL
import Derived.Deep.DeepCutAuto
namespace Go.Proofs.YtoaajnhbcekglaaDoor
open Go Go.RowKit

/-- The cells of the context that a packet ACCEPT tells. -/
def accCtx (ver neg his a0 a1 sdu tdu : Int) : Array Value := #[.slice none 0 0, .string ⟨#[]⟩, .int .u16 ver, .int .u16 0, .int .u16 0, .int .u16 neg, .int .u16 0, .int .u16 his, .string ⟨#[]⟩, .bool false, .int .u8 a0, .int .u8 a1, .int .u32 sdu, .int .u32 tdu, .bool false, .bool false, .bool false, .bool false]

/-- Behind the great statement: the packet, and its context. -/
def AccMid (w : World) (V20 V0 TY FL V8 V10 V16 A0 A1 V12 V14 : Int) (u : Value) (wc : World) : Prop :=
  ∃ J K, u = .pointer (some ⟨J, 0, none⟩) ∧ wc.heap[J]? = some (.cells #[.int .u16 V20, .int .u32 V0, .int .u8 TY, .int .u8 FL, .pointer (some ⟨K, 0, none⟩), .slice none 0 0] 91 (0, 0)) ∧
    wc.heap[K]? = some (.cells (accCtx V8 V10 V16 A0 A1 V12 V14) 93 (0, 0)) ∧ J ≠ K ∧ w.heap.size ≤ J ∧ w.heap.size ≤ K ∧ Gr w wc

/-- A unit, by the version. -/
def unitOf (V8 a b : Int) : Int := if 315 ≤ V8 then a else b
/-- The packet and its context, once the units are known. -/
structure AccTwo (w : World) (J K D : Nat) (V0 TY FL V8 V10 V16 A0 A1 S T : Int) (v : Value) (wc : World) : Prop where
  hJ : wc.heap[J]? = some (.cells #[.int .u16 (D : Nat), .int .u32 V0, .int .u8 TY, .int .u8 FL, .pointer (some ⟨K, 0, none⟩), v] 91 (0, 0))
  hK : wc.heap[K]? = some (.cells (accCtx V8 V10 V16 A0 A1 S T) 93 (0, 0))
  g : Gr w wc
theorem AccTwo.gr {w : World} {J K D : Nat} {V0 TY FL V8 V10 V16 A0 A1 S T : Int} {v : Value} {a c : World} (h : AccTwo w J K D V0 TY FL V8 V10 V16 A0 A1 S T v a) (g : Gr a c) : AccTwo w J K D V0 TY FL V8 V10 V16 A0 A1 S T v c := ⟨g.heap h.hJ, g.heap h.hK, h.g.trans g⟩
theorem AccTwo.s {w : World} {J K D : Nat} {V0 TY FL V8 V10 V16 A0 A1 S T : Int} {v : Value} {a : World} (h : AccTwo w J K D V0 TY FL V8 V10 V16 A0 A1 S T v a) (hne : J ≠ K) (hb : w.heap.size ≤ K) (S' : Int) : AccTwo w J K D V0 TY FL V8 V10 V16 A0 A1 S' T v (a.setCell ⟨K, 12, none⟩ (.int .u32 S')) :=
  ⟨by rw [Below.heap_setCell _ _ _ _ hne]; exact h.hJ, by rw [blk_set h.hK]; rfl, h.g.setCell (p := ⟨K, 12, none⟩) hb _⟩
theorem AccTwo.t {w : World} {J K D : Nat} {V0 TY FL V8 V10 V16 A0 A1 S T : Int} {v : Value} {a : World} (h : AccTwo w J K D V0 TY FL V8 V10 V16 A0 A1 S T v a) (hne : J ≠ K) (hb : w.heap.size ≤ K) (T' : Int) : AccTwo w J K D V0 TY FL V8 V10 V16 A0 A1 S T' v (a.setCell ⟨K, 13, none⟩ (.int .u32 T')) :=
  ⟨by rw [Below.heap_setCell _ _ _ _ hne]; exact h.hJ, by rw [blk_set h.hK]; rfl, h.g.setCell (p := ⟨K, 13, none⟩) hb _⟩
/-- The lesser of both units. -/
def capOf (S T : Int) : Int := if T < S then T else S
/-- What the reader of a packet ACCEPT ends in. -/
def AccEnd (w : World) (D : Nat) (V0 TY FL V8 V10 V16 A0 A1 S T : Int) (ys : List Int) (e : Ending) (w' : World) : Prop :=
  ∃ J K v, e = .returned (.pointer (some ⟨J, 0, none⟩)) ∧ w'.heap[J]? = some (.cells #[.int .u16 (D : Nat), .int .u32 V0, .int .u8 TY, .int .u8 FL, .pointer (some ⟨K, 0, none⟩), v] 91 (0, 0)) ∧
    w'.heap[K]? = some (.cells (accCtx V8 V10 V16 A0 A1 (if T < S then T else S) T) 93 (0, 0)) ∧ Rd w' v ys ∧ Gr w w'
theorem acc_cells {W : World} {J : Nat} (hz : W.heap[J]? = some (.cells #[.int .u16 0, .int .u32 0, .int .u8 0, .int .u8 0, .pointer none, .slice none 0 0] 91 (0, 0))) :
    W.cell? ⟨J, 0, none⟩ = some (.int .u16 0) ∧ W.cell? ⟨J, 1, none⟩ = some (.int .u32 0) ∧ W.cell? ⟨J, 2, none⟩ = some (.int .u8 0) ∧ W.cell? ⟨J, 3, none⟩ = some (.int .u8 0) ∧ W.cell? ⟨J, 4, none⟩ = some (.pointer none) ∧ W.cell? ⟨J, 5, none⟩ = some (.slice none 0 0) ∧
    W.frozen? ⟨J, 0, none⟩ = false ∧ W.frozen? ⟨J, 1, none⟩ = false ∧ W.frozen? ⟨J, 2, none⟩ = false ∧ W.frozen? ⟨J, 3, none⟩ = false ∧ W.frozen? ⟨J, 4, none⟩ = false ∧ W.frozen? ⟨J, 5, none⟩ = false :=
  ⟨(blk_cell hz 0).trans rfl, (blk_cell hz 1).trans rfl, (blk_cell hz 2).trans rfl, (blk_cell hz 3).trans rfl, (blk_cell hz 4).trans rfl, (blk_cell hz 5).trans rfl, blk_free hz 0, blk_free hz 1, blk_free hz 2, blk_free hz 3, blk_free hz 4, blk_free hz 5⟩
theorem acc_store {w W : World} {J K : Nat} {V8 V10 V16 A0 A1 V12 V14 : Int} (V20 V0 TY FL : Int) (hz : W.heap[J]? = some (.cells #[.int .u16 0, .int .u32 0, .int .u8 0, .int .u8 0, .pointer none, .slice none 0 0] 91 (0, 0)))
    (hk : W.heap[K]? = some (.cells #[.slice none 0 0, .string ⟨#[]⟩, .int .u16 V8, .int .u16 0, .int .u16 0, .int .u16 V10, .int .u16 0, .int .u16 V16, .string ⟨#[]⟩, .bool false, .int .u8 A0, .int .u8 A1, .int .u32 V12, .int .u32 V14, .bool false, .bool false, .bool false, .bool false] 93 (0, 0)))
    (hne : K ≠ J) (hbJ : w.heap.size ≤ J) (hbK : w.heap.size ≤ K) (hG : Gr w W) :
    Gr w ((((((W.setCell ⟨J, 0, none⟩ (.int .u16 V20)).setCell ⟨J, 1, none⟩ (.int .u32 V0)).setCell ⟨J, 2, none⟩ (.int .u8 TY)).setCell ⟨J, 3, none⟩ (.int .u8 FL)).setCell ⟨J, 4, none⟩ (.pointer (some ⟨K, 0, none⟩))).setCell ⟨J, 5, none⟩ (.slice none 0 0)) ∧
      AccMid w V20 V0 TY FL V8 V10 V16 A0 A1 V12 V14 (.pointer (some ⟨J, 0, none⟩)) ((((((W.setCell ⟨J, 0, none⟩ (.int .u16 V20)).setCell ⟨J, 1, none⟩ (.int .u32 V0)).setCell ⟨J, 2, none⟩ (.int .u8 TY)).setCell ⟨J, 3, none⟩ (.int .u8 FL)).setCell ⟨J, 4, none⟩ (.pointer (some ⟨K, 0, none⟩))).setCell ⟨J, 5, none⟩ (.slice none 0 0)) := by
  have g := (((((hG.setCell (p := ⟨J, 0, none⟩) hbJ (.int .u16 V20)).setCell (p := ⟨J, 1, none⟩) hbJ (.int .u32 V0)).setCell (p := ⟨J, 2, none⟩) hbJ (.int .u8 TY)).setCell (p := ⟨J, 3, none⟩) hbJ (.int .u8 FL)).setCell (p := ⟨J, 4, none⟩) hbJ (.pointer (some ⟨K, 0, none⟩))).setCell (p := ⟨J, 5, none⟩) hbJ (.slice none 0 0)
  refine ⟨g, J, K, rfl, ?_, ?_, fun e => hne e.symm, hbJ, hbK, g⟩
  · have h := blk_set (blk_set (blk_set (blk_set (blk_set (blk_set hz 0 (.int .u16 V20)) 1 (.int .u32 V0)) 2 (.int .u8 TY)) 3 (.int .u8 FL)) 4 (.pointer (some ⟨K, 0, none⟩))) 5 (.slice none 0 0)
    simpa using h
  · rw [Below.heap_setCell _ _ _ _ hne, Below.heap_setCell _ _ _ _ hne, Below.heap_setCell _ _ _ _ hne, Below.heap_setCell _ _ _ _ hne, Below.heap_setCell _ _ _ _ hne, Below.heap_setCell _ _ _ _ hne]
    exact hk

-- OPS
/-- The last operation of the great statement. -/
def accStore : Oper := { dst := none, op := Op.store 91 (Operand.tmp 6) (Operand.tmp 86), type := 0, pos := "accept_packet.go:45", after := #[{ on := 47, ground := Ground.data }, { on := 46, ground := Ground.data }, { on := 37, ground := Ground.chain }, { on := 0, ground := Ground.phase }, { on := 1, ground := Ground.phase }, { on := 2, ground := Ground.phase }, { on := 3, ground := Ground.phase }, { on := 4, ground := Ground.phase }, { on := 5, ground := Ground.phase }, { on := 6, ground := Ground.phase }, { on := 7, ground := Ground.phase }, { on := 8, ground := Ground.phase }, { on := 9, ground := Ground.phase }, { on := 10, ground := Ground.phase }, { on := 11, ground := Ground.phase }, { on := 12, ground := Ground.phase }, { on := 13, ground := Ground.phase }, { on := 14, ground := Ground.phase }, { on := 15, ground := Ground.phase }, { on := 16, ground := Ground.phase }, { on := 17, ground := Ground.phase }, { on := 18, ground := Ground.phase }, { on := 19, ground := Ground.phase }, { on := 20, ground := Ground.phase }, { on := 21, ground := Ground.phase }, { on := 22, ground := Ground.phase }, { on := 23, ground := Ground.phase }, { on := 24, ground := Ground.phase }, { on := 25, ground := Ground.phase }, { on := 26, ground := Ground.phase }, { on := 27, ground := Ground.phase }, { on := 28, ground := Ground.phase }, { on := 29, ground := Ground.phase }, { on := 30, ground := Ground.phase }, { on := 31, ground := Ground.phase }, { on := 32, ground := Ground.phase }, { on := 33, ground := Ground.phase }, { on := 34, ground := Ground.phase }, { on := 35, ground := Ground.phase }, { on := 36, ground := Ground.phase }, { on := 37, ground := Ground.phase }, { on := 38, ground := Ground.phase }, { on := 39, ground := Ground.phase }, { on := 40, ground := Ground.phase }, { on := 41, ground := Ground.phase }, { on := 42, ground := Ground.phase }, { on := 43, ground := Ground.phase }, { on := 44, ground := Ground.phase }, { on := 45, ground := Ground.phase }, { on := 46, ground := Ground.phase }, { on := 47, ground := Ground.phase }], guard := none }
/-- The operations of the great statement. -/
def accOps : Array Oper := #[{ dst := some 40, op := Op.load 109 (Operand.global 0), type := 109, pos := "accept_packet.go:45", after := #[], guard := none },
  { dst := some 41, op := Op.move (Operand.tmp 0), type := 30, pos := "accept_packet.go:45", after := #[], guard := none },
  { dst := some 42, op := Op.slice 30 (Operand.tmp 41) (some (Operand.const (Value.int IntKind.i64 8))) none none, type := 30, pos := "accept_packet.go:45", after := #[{ on := 1, ground := Ground.data }], guard := none },
  { dst := some 43, op := Op.call { callee := Callee.value (Operand.func 54), args := #[Operand.tmp 40, Operand.tmp 42], argTypes := #[109, 30] }, type := 22, pos := "accept_packet.go:49", after := #[{ on := 0, ground := Ground.data }, { on := 2, ground := Ground.data }], guard := none },
  { dst := some 44, op := Op.load 109 (Operand.global 0), type := 109, pos := "accept_packet.go:45", after := #[], guard := none },
  { dst := some 45, op := Op.move (Operand.tmp 0), type := 30, pos := "accept_packet.go:45", after := #[], guard := none },
  { dst := some 46, op := Op.slice 30 (Operand.tmp 45) (some (Operand.const (Value.int IntKind.i64 10))) none none, type := 30, pos := "accept_packet.go:45", after := #[{ on := 5, ground := Ground.data }], guard := none },
  { dst := some 47, op := Op.call { callee := Callee.value (Operand.func 54), args := #[Operand.tmp 44, Operand.tmp 46], argTypes := #[109, 30] }, type := 22, pos := "accept_packet.go:52", after := #[{ on := 4, ground := Ground.data }, { on := 6, ground := Ground.data }, { on := 3, ground := Ground.chain }], guard := none },
  { dst := some 48, op := Op.load 109 (Operand.global 0), type := 109, pos := "accept_packet.go:45", after := #[], guard := none },
  { dst := some 49, op := Op.move (Operand.tmp 0), type := 30, pos := "accept_packet.go:45", after := #[], guard := none },
  { dst := some 50, op := Op.slice 30 (Operand.tmp 49) (some (Operand.const (Value.int IntKind.i64 16))) none none, type := 30, pos := "accept_packet.go:45", after := #[{ on := 9, ground := Ground.data }], guard := none },
  { dst := some 51, op := Op.call { callee := Callee.value (Operand.func 54), args := #[Operand.tmp 48, Operand.tmp 50], argTypes := #[109, 30] }, type := 22, pos := "accept_packet.go:54", after := #[{ on := 8, ground := Ground.data }, { on := 10, ground := Ground.data }, { on := 7, ground := Ground.chain }], guard := none },
  { dst := some 52, op := Op.move (Operand.tmp 5), type := 9, pos := "accept_packet.go:45", after := #[], guard := none },
  { dst := some 53, op := Op.move (Operand.tmp 0), type := 30, pos := "accept_packet.go:45", after := #[], guard := none },
  { dst := some 54, op := Op.indexAddr 30 (Operand.tmp 53) (Operand.const (Value.int IntKind.i64 22)), type := 0, pos := "accept_packet.go:45", after := #[{ on := 13, ground := Ground.data }], guard := none },
  { dst := some 55, op := Op.load 5 (Operand.tmp 54), type := 5, pos := "accept_packet.go:45", after := #[{ on := 14, ground := Ground.data }], guard := none },
  { dst := some 56, op := Op.move (Operand.tmp 0), type := 30, pos := "accept_packet.go:45", after := #[], guard := none },
  { dst := some 57, op := Op.indexAddr 30 (Operand.tmp 56) (Operand.const (Value.int IntKind.i64 23)), type := 0, pos := "accept_packet.go:45", after := #[{ on := 16, ground := Ground.data }], guard := none },
  { dst := some 58, op := Op.load 5 (Operand.tmp 57), type := 5, pos := "accept_packet.go:45", after := #[{ on := 17, ground := Ground.data }], guard := none },
  { dst := some 59, op := Op.load 109 (Operand.global 0), type := 109, pos := "accept_packet.go:45", after := #[], guard := none },
  { dst := some 60, op := Op.move (Operand.tmp 0), type := 30, pos := "accept_packet.go:45", after := #[], guard := none },
  { dst := some 61, op := Op.slice 30 (Operand.tmp 60) (some (Operand.const (Value.int IntKind.i64 12))) none none, type := 30, pos := "accept_packet.go:45", after := #[{ on := 20, ground := Ground.data }], guard := none },
  { dst := some 62, op := Op.call { callee := Callee.value (Operand.func 54), args := #[Operand.tmp 59, Operand.tmp 61], argTypes := #[109, 30] }, type := 22, pos := "accept_packet.go:58", after := #[{ on := 19, ground := Ground.data }, { on := 21, ground := Ground.data }, { on := 11, ground := Ground.chain }], guard := none },
  { dst := some 63, op := Op.convert 22 23 (Operand.tmp 62), type := 23, pos := "accept_packet.go:45", after := #[{ on := 22, ground := Ground.data }], guard := none },
  { dst := some 64, op := Op.load 109 (Operand.global 0), type := 109, pos := "accept_packet.go:45", after := #[], guard := none },
  { dst := some 65, op := Op.move (Operand.tmp 0), type := 30, pos := "accept_packet.go:45", after := #[], guard := none },
  { dst := some 66, op := Op.slice 30 (Operand.tmp 65) (some (Operand.const (Value.int IntKind.i64 14))) none none, type := 30, pos := "accept_packet.go:45", after := #[{ on := 25, ground := Ground.data }], guard := none },
  { dst := some 67, op := Op.call { callee := Callee.value (Operand.func 54), args := #[Operand.tmp 64, Operand.tmp 66], argTypes := #[109, 30] }, type := 22, pos := "accept_packet.go:59", after := #[{ on := 24, ground := Ground.data }, { on := 26, ground := Ground.data }, { on := 22, ground := Ground.chain }], guard := none },
  { dst := some 68, op := Op.convert 22 23 (Operand.tmp 67), type := 23, pos := "accept_packet.go:45", after := #[{ on := 27, ground := Ground.data }], guard := none },
  { dst := some 69, op := Op.build 93 #[(0, Operand.const (Value.slice none 0 0)), (2, Operand.tmp 43), (3, Operand.const (Value.int IntKind.u16 0)), (4, Operand.const (Value.int IntKind.u16 0)), (5, Operand.tmp 47), (6, Operand.const (Value.int IntKind.u16 0)), (7, Operand.tmp 51), (8, Operand.tmp 52), (10, Operand.tmp 55), (11, Operand.tmp 58), (12, Operand.tmp 63), (13, Operand.tmp 68), (14, Operand.const (Value.bool false)), (15, Operand.const (Value.bool false)), (16, Operand.const (Value.bool false)), (17, Operand.const (Value.bool false))], type := 93, pos := "accept_packet.go:45", after := #[{ on := 3, ground := Ground.data }, { on := 7, ground := Ground.data }, { on := 11, ground := Ground.data }, { on := 12, ground := Ground.data }, { on := 15, ground := Ground.data }, { on := 18, ground := Ground.data }, { on := 23, ground := Ground.data }, { on := 28, ground := Ground.data }], guard := none },
  { dst := some 70, op := Op.box 93 (Operand.tmp 69), type := 58, pos := "accept_packet.go:45", after := #[{ on := 29, ground := Ground.data }], guard := none },
  { dst := some 71, op := Op.load 109 (Operand.global 0), type := 109, pos := "accept_packet.go:45", after := #[], guard := none },
  { dst := some 72, op := Op.move (Operand.tmp 0), type := 30, pos := "accept_packet.go:45", after := #[], guard := none },
  { dst := some 73, op := Op.slice 30 (Operand.tmp 72) (some (Operand.const (Value.int IntKind.i64 20))) none none, type := 30, pos := "accept_packet.go:45", after := #[{ on := 32, ground := Ground.data }], guard := none },
  { dst := some 74, op := Op.call { callee := Callee.value (Operand.func 54), args := #[Operand.tmp 71, Operand.tmp 73], argTypes := #[109, 30] }, type := 22, pos := "accept_packet.go:65", after := #[{ on := 31, ground := Ground.data }, { on := 33, ground := Ground.data }, { on := 27, ground := Ground.chain }], guard := none },
  { dst := some 75, op := Op.load 109 (Operand.global 0), type := 109, pos := "accept_packet.go:45", after := #[], guard := none },
  { dst := some 76, op := Op.move (Operand.tmp 0), type := 30, pos := "accept_packet.go:45", after := #[], guard := none },
  { dst := some 77, op := Op.call { callee := Callee.value (Operand.func 54), args := #[Operand.tmp 75, Operand.tmp 76], argTypes := #[109, 30] }, type := 22, pos := "accept_packet.go:66", after := #[{ on := 35, ground := Ground.data }, { on := 36, ground := Ground.data }, { on := 34, ground := Ground.chain }], guard := none },
  { dst := some 78, op := Op.convert 22 23 (Operand.tmp 77), type := 23, pos := "accept_packet.go:45", after := #[{ on := 37, ground := Ground.data }], guard := none },
  { dst := some 79, op := Op.move (Operand.tmp 0), type := 30, pos := "accept_packet.go:45", after := #[], guard := none },
  { dst := some 80, op := Op.indexAddr 30 (Operand.tmp 79) (Operand.const (Value.int IntKind.i64 4)), type := 0, pos := "accept_packet.go:45", after := #[{ on := 39, ground := Ground.data }], guard := none },
  { dst := some 81, op := Op.load 5 (Operand.tmp 80), type := 5, pos := "accept_packet.go:45", after := #[{ on := 40, ground := Ground.data }], guard := none },
  { dst := some 82, op := Op.move (Operand.tmp 0), type := 30, pos := "accept_packet.go:45", after := #[], guard := none },
  { dst := some 83, op := Op.indexAddr 30 (Operand.tmp 82) (Operand.const (Value.int IntKind.i64 5)), type := 0, pos := "accept_packet.go:45", after := #[{ on := 42, ground := Ground.data }], guard := none },
  { dst := some 84, op := Op.load 5 (Operand.tmp 83), type := 5, pos := "accept_packet.go:45", after := #[{ on := 43, ground := Ground.data }], guard := none },
  { dst := some 85, op := Op.build 69 #[(4, Operand.tmp 70), (0, Operand.tmp 74), (1, Operand.tmp 78), (2, Operand.tmp 81), (3, Operand.tmp 84)], type := 69, pos := "accept_packet.go:45", after := #[{ on := 30, ground := Ground.data }, { on := 34, ground := Ground.data }, { on := 38, ground := Ground.data }, { on := 41, ground := Ground.data }, { on := 44, ground := Ground.data }], guard := none },
  { dst := some 86, op := Op.build 91 #[(0, Operand.tmp 85)], type := 91, pos := "accept_packet.go:45", after := #[{ on := 45, ground := Ground.data }], guard := none },
  { dst := some 6, op := Op.alloc 91, type := 0, pos := "accept_packet.go:45", after := #[], guard := none },
  accStore]
-- ENDOPS
set_option maxRecDepth 100000 in
set_option maxHeartbeats 40000000 in
theorem accFrom (b o n c : Nat) (xs : List Int) (w : World) (h : RdAt w b o xs) (hn : xs.length = n) (h41 : 41 ≤ n) (hn2 : n ≤ 60000) (hc : n ≤ c) (hm : c ≤ maxLen) (h28 : nat2 (xs.drop 28) = 0)
    (D : Nat) (hD : D ≤ n) (h20 : nat2 (xs.drop 20) = (D : Int)) (h18 : nat2 (xs.drop 18) = ((n - D : Nat) : Int)) (hfl : bits .and .u8 (xs.getD 5 0) 1 = 0) :
    Calls Tryd.prog 49 #[.slice (some ⟨b, o, none⟩) n c] w (AccEnd w D (nat2 xs) (xs.getD 4 0) (xs.getD 5 0) (nat2 (xs.drop 8)) (nat2 (xs.drop 10)) (nat2 (xs.drop 16)) (xs.getD 22 0) (xs.getD 23 0) (unitOf (nat2 (xs.drop 8)) (nat4 (xs.drop 32)) (nat2 (xs.drop 12))) (unitOf (nat2 (xs.drop 8)) (nat4 (xs.drop 36)) (nat2 (xs.drop 14))) (xs.drop D)) := by
  have HN := Lib.hid hn
  have k4 := h.cell 4 (by omega)
  have k5 := h.cell 5 (by omega)
  have k22 := h.cell 22 (by omega)
  have k23 := h.cell 23 (by omega)
  have HU := fun (d : Nat) (hd : d + 2 ≤ n) w (h : RdAt w b o xs) => Lib.hid (get16 w b (o + d) (n - d) (c - d) (xs.drop d) (h.drop d) (by omega) (by rw [List.length_drop]; omega))
  have U28 := HU 28 (by omega)
  have U8 := HU 8 (by omega)
  have U10 := HU 10 (by omega)
  have U12 := HU 12 (by omega)
  have U14 := HU 14 (by omega)
  have U16 := HU 16 (by omega)
  have U20 := HU 20 (by omega)
  have U0 := fun w (h : RdAt w b o xs) => Lib.hid (get16 w b o n c xs h (by omega) (by omega))
  have cw : ∀ d : Nat, d < 41 → ¬ (c = d) := fun d hd => by omega
  have V0b := nat2_bd h.byt
  have V12b := nat2_bd (h.drop 12).byt
  have V14b := nat2_bd (h.drop 14).byt
  have U30 := HU 30 (by omega)
  have U18 := HU 18 (by omega)
  have W32 := fun w (h : RdAt w b o xs) => Lib.hid (get32 w b (o + 32) (n - 32) (c - 32) (xs.drop 32) (h.drop 32) (by omega) (by rw [List.length_drop]; omega))
  have W36 := fun w (h : RdAt w b o xs) => Lib.hid (get32 w b (o + 36) (n - 36) (c - 36) (xs.drop 36) (h.drop 36) (by omega) (by rw [List.length_drop]; omega))
  rw [h28] at U28
  rw [h18] at U18
  have hm' : c ≤ 9223372036854775807 := by simp only [maxLen] at hm; omega
  have hn0 : (41 : Int) ≤ (n : Int) := by omega
  have inc : ((n : Nat) : Int) ≤ (c : Nat) := by omega
  have c28 : ¬ (c = 28) := by omega
  have c30 : ¬ (c = 30) := by omega
  generalize nat2 (xs.drop 30) = D30 at *
  generalize nat2 (xs.drop 8) = V8 at *
  generalize nat2 (xs.drop 10) = V10 at *
  generalize nat2 (xs.drop 12) = V12 at *
  generalize nat2 (xs.drop 14) = V14 at *
  generalize nat2 (xs.drop 16) = V16 at *
  rw [h20] at U20
  have HRB := Lib.hid (rd_cutAt h hn hc hm D hD)
  have hrun := run_cutAt (P := Tryd.prog) Go.Proofs.YtoaajnhbcekglaaDoor.u8 b o n c D (D : Int) rfl hD
  generalize cutOff o c D = oD at *
  generalize nat4 (xs.drop 32) = V32 at *
  generalize nat4 (xs.drop 36) = V36 at *
  generalize nat2 xs = V0 at *
  generalize xs.getD 4 0 = TY at *
  generalize xs.getD 5 0 = FL at *
  generalize xs.getD 22 0 = A0 at *
  generalize xs.getD 23 0 = A1 at *
  have cc8 := cw 8 (by omega)
  have cc10 := cw 10 (by omega)
  have cc12 := cw 12 (by omega)
  have cc14 := cw 14 (by omega)
  have cc16 := cw 16 (by omega)
  have cc20 := cw 20 (by omega)
  have j8 : (8 : Int) ≤ (n : Nat) := by omega
  have j10 : (10 : Int) ≤ (n : Nat) := by omega
  have j12 : (12 : Int) ≤ (n : Nat) := by omega
  have j14 : (14 : Int) ≤ (n : Nat) := by omega
  have j16 : (16 : Int) ≤ (n : Nat) := by omega
  have j20 : (20 : Int) ≤ (n : Nat) := by omega
  have l4 : (4 : Int) < (n : Nat) := by omega
  have l5 : (5 : Int) < (n : Nat) := by omega
  have l22 : (22 : Int) < (n : Nat) := by omega
  have l23 : (23 : Int) < (n : Nat) := by omega
  have cc18 := cw 18 (by omega)
  have cc32 := cw 32 (by omega)
  have cc36 := cw 36 (by omega)
  have j18 : (18 : Int) ≤ (n : Nat) := by omega
  have j32 : (32 : Int) ≤ (n : Nat) := by omega
  have j36 : (36 : Int) ≤ (n : Nat) := by omega
  have wD : IntKind.i64.wrap (D : Int) = D := IntWalk.i64_in _ (by omega)
  have wL : IntKind.u16.wrap ((n - D : Nat) : Int) = ((n - D : Nat) : Int) := IntWalk.u16_in _ (by omega)
  obtain ⟨V00, V01⟩ := V0b
  obtain ⟨V120, V121⟩ := V12b
  obtain ⟨V140, V141⟩ := V14b
  have x0 : IntKind.u32.wrap V0 = V0 := IntWalk.u32_in _ (by omega)
  have x12 : IntKind.u32.wrap V12 = V12 := IntWalk.u32_in _ (by omega)
  have x14 : IntKind.u32.wrap V14 = V14 := IntWalk.u32_in _ (by omega)
  have i28 : (28 : Int) ≤ (n : Nat) := by omega
  have i30 : (30 : Int) ≤ (n : Nat) := by omega
  have H := Lib.hid h
  have hb : b < w.heap.size := World.block_lt_of_cell? w _ k4
  clear hn hm h HU h28 cw h20 h18
  go_enter Tryd.func49, Tryd.ntmps49
  go_wp2_with fail
  go_region_held3 (fun _ => True) (trivial)
    ((first | (go_at_call 54; go_must (refine (U28 _ H.out.drew).out.mono ?_); rintro e w1 ⟨rfl, hg1⟩; have hg1 := Gr.trans (Gr.drew (Gr.refl w)) hg1)))
  go_wp2_with fail
  go_region_held3 (fun _ => True) (trivial)
    ((first | (go_at_call 54; go_must (refine (U30 _ (H.out.gr hg1).drew).out.mono ?_); rintro e w2 ⟨rfl, hg2⟩; have hg2 := Gr.trans (Gr.drew (Gr.refl w1)) hg2)))
  go_wp2_with fail
  go_cut [6] from 40 to 174 (fun u wc => AccMid w (D : Nat) V0 TY FL V8 V10 V16 A0 A1 V12 V14 u wc)
  case first =>
    -- REGION
    have hG := (hg1.trans hg2).drew
    refine wp_region_held_drew (S := fun w' => w'.cell? ⟨b, o + 4, none⟩ = some (.int .u8 TY) ∧ w'.cell? ⟨b, o + 5, none⟩ = some (.int .u8 FL) ∧ w'.cell? ⟨b, o + 22, none⟩ = some (.int .u8 A0) ∧ w'.cell? ⟨b, o + 23, none⟩ = some (.int .u8 A1)) (by kernel_rfl) ⟨hG.cell k4, hG.cell k5, hG.cell k22, hG.cell k23⟩ (fun hHeld => ?_)
    change wpAnyH _ _ accOps _ _ 49 #[false, false, false, false, false, false, false, false, false, false, false, false, false, false, false, false, false, false, false, false, false, false, false, false, false, false, false, false, false, false, false, false, false, false, false, false, false, false, false, false, false, false, false, false, false, false, false, false, false] _ _
    generalize hcc : w2.drew = c0 at *
    clear hcc
    refine wpAnyH_take (i := 0) (oi := { dst := some 40, op := Op.load 109 (Operand.global 0), type := 109, pos := "accept_packet.go:45", after := #[], guard := none }) (v := ?_) rfl (by kernel_rfl) (by kernel_rfl) (by kernel_rfl) (fun _ _ _ h => h) (Or.inl ⟨by rfl, ?_⟩) (by assumption) ?_
    rotate_left
    · (intro w hSw; (try dsimp only at hSw); go_simp; try with_reducible rfl)
    try simp only [Act.put, List.setIfInBounds_toArray, List.set_cons_zero, List.set_cons_succ]
    refine wpAnyH_take (i := 1) (oi := { dst := some 41, op := Op.move (Operand.tmp 0), type := 30, pos := "accept_packet.go:45", after := #[], guard := none }) (v := ?_) rfl (by kernel_rfl) (by kernel_rfl) (by kernel_rfl) (fun _ _ _ h => h) (Or.inl ⟨by rfl, ?_⟩) (by assumption) ?_
    rotate_left
    · (intro w hSw; (try dsimp only at hSw); go_simp; try with_reducible rfl)
    try simp only [Act.put, List.setIfInBounds_toArray, List.set_cons_zero, List.set_cons_succ]
    refine wpAnyH_take (i := 2) (oi := { dst := some 42, op := Op.slice 30 (Operand.tmp 41) (some (Operand.const (Value.int IntKind.i64 8))) none none, type := 30, pos := "accept_packet.go:45", after := #[{ on := 1, ground := Ground.data }], guard := none }) (v := ?_) rfl (by kernel_rfl) (by kernel_rfl) (by kernel_rfl) (fun _ _ _ h => h) (Or.inl ⟨by rfl, ?_⟩) (by assumption) ?_
    rotate_left
    · (intro w hSw; (try dsimp only at hSw); go_simp; try with_reducible rfl)
    try simp only [Act.put, List.setIfInBounds_toArray, List.set_cons_zero, List.set_cons_succ]
    refine wpAnyH_take (i := 4) (oi := { dst := some 44, op := Op.load 109 (Operand.global 0), type := 109, pos := "accept_packet.go:45", after := #[], guard := none }) (v := ?_) rfl (by kernel_rfl) (by kernel_rfl) (by kernel_rfl) (fun _ _ _ h => h) (Or.inl ⟨by rfl, ?_⟩) (by assumption) ?_
    rotate_left
    · (intro w hSw; (try dsimp only at hSw); go_simp; try with_reducible rfl)
    try simp only [Act.put, List.setIfInBounds_toArray, List.set_cons_zero, List.set_cons_succ]
    refine wpAnyH_take (i := 5) (oi := { dst := some 45, op := Op.move (Operand.tmp 0), type := 30, pos := "accept_packet.go:45", after := #[], guard := none }) (v := ?_) rfl (by kernel_rfl) (by kernel_rfl) (by kernel_rfl) (fun _ _ _ h => h) (Or.inl ⟨by rfl, ?_⟩) (by assumption) ?_
    rotate_left
    · (intro w hSw; (try dsimp only at hSw); go_simp; try with_reducible rfl)
    try simp only [Act.put, List.setIfInBounds_toArray, List.set_cons_zero, List.set_cons_succ]
    refine wpAnyH_take (i := 6) (oi := { dst := some 46, op := Op.slice 30 (Operand.tmp 45) (some (Operand.const (Value.int IntKind.i64 10))) none none, type := 30, pos := "accept_packet.go:45", after := #[{ on := 5, ground := Ground.data }], guard := none }) (v := ?_) rfl (by kernel_rfl) (by kernel_rfl) (by kernel_rfl) (fun _ _ _ h => h) (Or.inl ⟨by rfl, ?_⟩) (by assumption) ?_
    rotate_left
    · (intro w hSw; (try dsimp only at hSw); go_simp; try with_reducible rfl)
    try simp only [Act.put, List.setIfInBounds_toArray, List.set_cons_zero, List.set_cons_succ]
    refine wpAnyH_take (i := 8) (oi := { dst := some 48, op := Op.load 109 (Operand.global 0), type := 109, pos := "accept_packet.go:45", after := #[], guard := none }) (v := ?_) rfl (by kernel_rfl) (by kernel_rfl) (by kernel_rfl) (fun _ _ _ h => h) (Or.inl ⟨by rfl, ?_⟩) (by assumption) ?_
    rotate_left
    · (intro w hSw; (try dsimp only at hSw); go_simp; try with_reducible rfl)
    try simp only [Act.put, List.setIfInBounds_toArray, List.set_cons_zero, List.set_cons_succ]
    refine wpAnyH_take (i := 9) (oi := { dst := some 49, op := Op.move (Operand.tmp 0), type := 30, pos := "accept_packet.go:45", after := #[], guard := none }) (v := ?_) rfl (by kernel_rfl) (by kernel_rfl) (by kernel_rfl) (fun _ _ _ h => h) (Or.inl ⟨by rfl, ?_⟩) (by assumption) ?_
    rotate_left
    · (intro w hSw; (try dsimp only at hSw); go_simp; try with_reducible rfl)
    try simp only [Act.put, List.setIfInBounds_toArray, List.set_cons_zero, List.set_cons_succ]
    refine wpAnyH_take (i := 10) (oi := { dst := some 50, op := Op.slice 30 (Operand.tmp 49) (some (Operand.const (Value.int IntKind.i64 16))) none none, type := 30, pos := "accept_packet.go:45", after := #[{ on := 9, ground := Ground.data }], guard := none }) (v := ?_) rfl (by kernel_rfl) (by kernel_rfl) (by kernel_rfl) (fun _ _ _ h => h) (Or.inl ⟨by rfl, ?_⟩) (by assumption) ?_
    rotate_left
    · (intro w hSw; (try dsimp only at hSw); go_simp; try with_reducible rfl)
    try simp only [Act.put, List.setIfInBounds_toArray, List.set_cons_zero, List.set_cons_succ]
    refine wpAnyH_take (i := 12) (oi := { dst := some 52, op := Op.move (Operand.tmp 5), type := 9, pos := "accept_packet.go:45", after := #[], guard := none }) (v := ?_) rfl (by kernel_rfl) (by kernel_rfl) (by kernel_rfl) (fun _ _ _ h => h) (Or.inl ⟨by rfl, ?_⟩) (by assumption) ?_
    rotate_left
    · (intro w hSw; (try dsimp only at hSw); go_simp; try with_reducible rfl)
    try simp only [Act.put, List.setIfInBounds_toArray, List.set_cons_zero, List.set_cons_succ]
    refine wpAnyH_take (i := 13) (oi := { dst := some 53, op := Op.move (Operand.tmp 0), type := 30, pos := "accept_packet.go:45", after := #[], guard := none }) (v := ?_) rfl (by kernel_rfl) (by kernel_rfl) (by kernel_rfl) (fun _ _ _ h => h) (Or.inl ⟨by rfl, ?_⟩) (by assumption) ?_
    rotate_left
    · (intro w hSw; (try dsimp only at hSw); go_simp; try with_reducible rfl)
    try simp only [Act.put, List.setIfInBounds_toArray, List.set_cons_zero, List.set_cons_succ]
    refine wpAnyH_take (i := 14) (oi := { dst := some 54, op := Op.indexAddr 30 (Operand.tmp 53) (Operand.const (Value.int IntKind.i64 22)), type := 0, pos := "accept_packet.go:45", after := #[{ on := 13, ground := Ground.data }], guard := none }) (v := ?_) rfl (by kernel_rfl) (by kernel_rfl) (by kernel_rfl) (fun _ _ _ h => h) (Or.inl ⟨by rfl, ?_⟩) (by assumption) ?_
    rotate_left
    · (intro w hSw; (try dsimp only at hSw); go_simp; try with_reducible rfl)
    try simp only [Act.put, List.setIfInBounds_toArray, List.set_cons_zero, List.set_cons_succ]
    refine wpAnyH_take (i := 15) (oi := { dst := some 55, op := Op.load 5 (Operand.tmp 54), type := 5, pos := "accept_packet.go:45", after := #[{ on := 14, ground := Ground.data }], guard := none }) (v := ?_) rfl (by kernel_rfl) (by kernel_rfl) (by kernel_rfl) (fun _ _ _ h => h) (Or.inl ⟨by rfl, ?_⟩) (by assumption) ?_
    rotate_left
    · (intro w hSw; (try dsimp only at hSw); go_simp; try with_reducible rfl)
    try simp only [Act.put, List.setIfInBounds_toArray, List.set_cons_zero, List.set_cons_succ]
    refine wpAnyH_take (i := 16) (oi := { dst := some 56, op := Op.move (Operand.tmp 0), type := 30, pos := "accept_packet.go:45", after := #[], guard := none }) (v := ?_) rfl (by kernel_rfl) (by kernel_rfl) (by kernel_rfl) (fun _ _ _ h => h) (Or.inl ⟨by rfl, ?_⟩) (by assumption) ?_
    rotate_left
    · (intro w hSw; (try dsimp only at hSw); go_simp; try with_reducible rfl)
    try simp only [Act.put, List.setIfInBounds_toArray, List.set_cons_zero, List.set_cons_succ]
    refine wpAnyH_take (i := 17) (oi := { dst := some 57, op := Op.indexAddr 30 (Operand.tmp 56) (Operand.const (Value.int IntKind.i64 23)), type := 0, pos := "accept_packet.go:45", after := #[{ on := 16, ground := Ground.data }], guard := none }) (v := ?_) rfl (by kernel_rfl) (by kernel_rfl) (by kernel_rfl) (fun _ _ _ h => h) (Or.inl ⟨by rfl, ?_⟩) (by assumption) ?_
    rotate_left
    · (intro w hSw; (try dsimp only at hSw); go_simp; try with_reducible rfl)
    try simp only [Act.put, List.setIfInBounds_toArray, List.set_cons_zero, List.set_cons_succ]
    refine wpAnyH_take (i := 18) (oi := { dst := some 58, op := Op.load 5 (Operand.tmp 57), type := 5, pos := "accept_packet.go:45", after := #[{ on := 17, ground := Ground.data }], guard := none }) (v := ?_) rfl (by kernel_rfl) (by kernel_rfl) (by kernel_rfl) (fun _ _ _ h => h) (Or.inl ⟨by rfl, ?_⟩) (by assumption) ?_
    rotate_left
    · (intro w hSw; (try dsimp only at hSw); go_simp; try with_reducible rfl)
    try simp only [Act.put, List.setIfInBounds_toArray, List.set_cons_zero, List.set_cons_succ]
    refine wpAnyH_take (i := 19) (oi := { dst := some 59, op := Op.load 109 (Operand.global 0), type := 109, pos := "accept_packet.go:45", after := #[], guard := none }) (v := ?_) rfl (by kernel_rfl) (by kernel_rfl) (by kernel_rfl) (fun _ _ _ h => h) (Or.inl ⟨by rfl, ?_⟩) (by assumption) ?_
    rotate_left
    · (intro w hSw; (try dsimp only at hSw); go_simp; try with_reducible rfl)
    try simp only [Act.put, List.setIfInBounds_toArray, List.set_cons_zero, List.set_cons_succ]
    refine wpAnyH_take (i := 20) (oi := { dst := some 60, op := Op.move (Operand.tmp 0), type := 30, pos := "accept_packet.go:45", after := #[], guard := none }) (v := ?_) rfl (by kernel_rfl) (by kernel_rfl) (by kernel_rfl) (fun _ _ _ h => h) (Or.inl ⟨by rfl, ?_⟩) (by assumption) ?_
    rotate_left
    · (intro w hSw; (try dsimp only at hSw); go_simp; try with_reducible rfl)
    try simp only [Act.put, List.setIfInBounds_toArray, List.set_cons_zero, List.set_cons_succ]
    refine wpAnyH_take (i := 21) (oi := { dst := some 61, op := Op.slice 30 (Operand.tmp 60) (some (Operand.const (Value.int IntKind.i64 12))) none none, type := 30, pos := "accept_packet.go:45", after := #[{ on := 20, ground := Ground.data }], guard := none }) (v := ?_) rfl (by kernel_rfl) (by kernel_rfl) (by kernel_rfl) (fun _ _ _ h => h) (Or.inl ⟨by rfl, ?_⟩) (by assumption) ?_
    rotate_left
    · (intro w hSw; (try dsimp only at hSw); go_simp; try with_reducible rfl)
    try simp only [Act.put, List.setIfInBounds_toArray, List.set_cons_zero, List.set_cons_succ]
    refine wpAnyH_take (i := 24) (oi := { dst := some 64, op := Op.load 109 (Operand.global 0), type := 109, pos := "accept_packet.go:45", after := #[], guard := none }) (v := ?_) rfl (by kernel_rfl) (by kernel_rfl) (by kernel_rfl) (fun _ _ _ h => h) (Or.inl ⟨by rfl, ?_⟩) (by assumption) ?_
    rotate_left
    · (intro w hSw; (try dsimp only at hSw); go_simp; try with_reducible rfl)
    try simp only [Act.put, List.setIfInBounds_toArray, List.set_cons_zero, List.set_cons_succ]
    refine wpAnyH_take (i := 25) (oi := { dst := some 65, op := Op.move (Operand.tmp 0), type := 30, pos := "accept_packet.go:45", after := #[], guard := none }) (v := ?_) rfl (by kernel_rfl) (by kernel_rfl) (by kernel_rfl) (fun _ _ _ h => h) (Or.inl ⟨by rfl, ?_⟩) (by assumption) ?_
    rotate_left
    · (intro w hSw; (try dsimp only at hSw); go_simp; try with_reducible rfl)
    try simp only [Act.put, List.setIfInBounds_toArray, List.set_cons_zero, List.set_cons_succ]
    refine wpAnyH_take (i := 26) (oi := { dst := some 66, op := Op.slice 30 (Operand.tmp 65) (some (Operand.const (Value.int IntKind.i64 14))) none none, type := 30, pos := "accept_packet.go:45", after := #[{ on := 25, ground := Ground.data }], guard := none }) (v := ?_) rfl (by kernel_rfl) (by kernel_rfl) (by kernel_rfl) (fun _ _ _ h => h) (Or.inl ⟨by rfl, ?_⟩) (by assumption) ?_
    rotate_left
    · (intro w hSw; (try dsimp only at hSw); go_simp; try with_reducible rfl)
    try simp only [Act.put, List.setIfInBounds_toArray, List.set_cons_zero, List.set_cons_succ]
    refine wpAnyH_take (i := 31) (oi := { dst := some 71, op := Op.load 109 (Operand.global 0), type := 109, pos := "accept_packet.go:45", after := #[], guard := none }) (v := ?_) rfl (by kernel_rfl) (by kernel_rfl) (by kernel_rfl) (fun _ _ _ h => h) (Or.inl ⟨by rfl, ?_⟩) (by assumption) ?_
    rotate_left
    · (intro w hSw; (try dsimp only at hSw); go_simp; try with_reducible rfl)
    try simp only [Act.put, List.setIfInBounds_toArray, List.set_cons_zero, List.set_cons_succ]
    refine wpAnyH_take (i := 32) (oi := { dst := some 72, op := Op.move (Operand.tmp 0), type := 30, pos := "accept_packet.go:45", after := #[], guard := none }) (v := ?_) rfl (by kernel_rfl) (by kernel_rfl) (by kernel_rfl) (fun _ _ _ h => h) (Or.inl ⟨by rfl, ?_⟩) (by assumption) ?_
    rotate_left
    · (intro w hSw; (try dsimp only at hSw); go_simp; try with_reducible rfl)
    try simp only [Act.put, List.setIfInBounds_toArray, List.set_cons_zero, List.set_cons_succ]
    refine wpAnyH_take (i := 33) (oi := { dst := some 73, op := Op.slice 30 (Operand.tmp 72) (some (Operand.const (Value.int IntKind.i64 20))) none none, type := 30, pos := "accept_packet.go:45", after := #[{ on := 32, ground := Ground.data }], guard := none }) (v := ?_) rfl (by kernel_rfl) (by kernel_rfl) (by kernel_rfl) (fun _ _ _ h => h) (Or.inl ⟨by rfl, ?_⟩) (by assumption) ?_
    rotate_left
    · (intro w hSw; (try dsimp only at hSw); go_simp; try with_reducible rfl)
    try simp only [Act.put, List.setIfInBounds_toArray, List.set_cons_zero, List.set_cons_succ]
    refine wpAnyH_take (i := 35) (oi := { dst := some 75, op := Op.load 109 (Operand.global 0), type := 109, pos := "accept_packet.go:45", after := #[], guard := none }) (v := ?_) rfl (by kernel_rfl) (by kernel_rfl) (by kernel_rfl) (fun _ _ _ h => h) (Or.inl ⟨by rfl, ?_⟩) (by assumption) ?_
    rotate_left
    · (intro w hSw; (try dsimp only at hSw); go_simp; try with_reducible rfl)
    try simp only [Act.put, List.setIfInBounds_toArray, List.set_cons_zero, List.set_cons_succ]
    refine wpAnyH_take (i := 36) (oi := { dst := some 76, op := Op.move (Operand.tmp 0), type := 30, pos := "accept_packet.go:45", after := #[], guard := none }) (v := ?_) rfl (by kernel_rfl) (by kernel_rfl) (by kernel_rfl) (fun _ _ _ h => h) (Or.inl ⟨by rfl, ?_⟩) (by assumption) ?_
    rotate_left
    · (intro w hSw; (try dsimp only at hSw); go_simp; try with_reducible rfl)
    try simp only [Act.put, List.setIfInBounds_toArray, List.set_cons_zero, List.set_cons_succ]
    refine wpAnyH_take (i := 39) (oi := { dst := some 79, op := Op.move (Operand.tmp 0), type := 30, pos := "accept_packet.go:45", after := #[], guard := none }) (v := ?_) rfl (by kernel_rfl) (by kernel_rfl) (by kernel_rfl) (fun _ _ _ h => h) (Or.inl ⟨by rfl, ?_⟩) (by assumption) ?_
    rotate_left
    · (intro w hSw; (try dsimp only at hSw); go_simp; try with_reducible rfl)
    try simp only [Act.put, List.setIfInBounds_toArray, List.set_cons_zero, List.set_cons_succ]
    refine wpAnyH_take (i := 40) (oi := { dst := some 80, op := Op.indexAddr 30 (Operand.tmp 79) (Operand.const (Value.int IntKind.i64 4)), type := 0, pos := "accept_packet.go:45", after := #[{ on := 39, ground := Ground.data }], guard := none }) (v := ?_) rfl (by kernel_rfl) (by kernel_rfl) (by kernel_rfl) (fun _ _ _ h => h) (Or.inl ⟨by rfl, ?_⟩) (by assumption) ?_
    rotate_left
    · (intro w hSw; (try dsimp only at hSw); go_simp; try with_reducible rfl)
    try simp only [Act.put, List.setIfInBounds_toArray, List.set_cons_zero, List.set_cons_succ]
    refine wpAnyH_take (i := 41) (oi := { dst := some 81, op := Op.load 5 (Operand.tmp 80), type := 5, pos := "accept_packet.go:45", after := #[{ on := 40, ground := Ground.data }], guard := none }) (v := ?_) rfl (by kernel_rfl) (by kernel_rfl) (by kernel_rfl) (fun _ _ _ h => h) (Or.inl ⟨by rfl, ?_⟩) (by assumption) ?_
    rotate_left
    · (intro w hSw; (try dsimp only at hSw); go_simp; try with_reducible rfl)
    try simp only [Act.put, List.setIfInBounds_toArray, List.set_cons_zero, List.set_cons_succ]
    refine wpAnyH_take (i := 42) (oi := { dst := some 82, op := Op.move (Operand.tmp 0), type := 30, pos := "accept_packet.go:45", after := #[], guard := none }) (v := ?_) rfl (by kernel_rfl) (by kernel_rfl) (by kernel_rfl) (fun _ _ _ h => h) (Or.inl ⟨by rfl, ?_⟩) (by assumption) ?_
    rotate_left
    · (intro w hSw; (try dsimp only at hSw); go_simp; try with_reducible rfl)
    try simp only [Act.put, List.setIfInBounds_toArray, List.set_cons_zero, List.set_cons_succ]
    refine wpAnyH_take (i := 43) (oi := { dst := some 83, op := Op.indexAddr 30 (Operand.tmp 82) (Operand.const (Value.int IntKind.i64 5)), type := 0, pos := "accept_packet.go:45", after := #[{ on := 42, ground := Ground.data }], guard := none }) (v := ?_) rfl (by kernel_rfl) (by kernel_rfl) (by kernel_rfl) (fun _ _ _ h => h) (Or.inl ⟨by rfl, ?_⟩) (by assumption) ?_
    rotate_left
    · (intro w hSw; (try dsimp only at hSw); go_simp; try with_reducible rfl)
    try simp only [Act.put, List.setIfInBounds_toArray, List.set_cons_zero, List.set_cons_succ]
    refine wpAnyH_take (i := 44) (oi := { dst := some 84, op := Op.load 5 (Operand.tmp 83), type := 5, pos := "accept_packet.go:45", after := #[{ on := 43, ground := Ground.data }], guard := none }) (v := ?_) rfl (by kernel_rfl) (by kernel_rfl) (by kernel_rfl) (fun _ _ _ h => h) (Or.inl ⟨by rfl, ?_⟩) (by assumption) ?_
    rotate_left
    · (intro w hSw; (try dsimp only at hSw); go_simp; try with_reducible rfl)
    try simp only [Act.put, List.setIfInBounds_toArray, List.set_cons_zero, List.set_cons_succ]
    refine wpAnyH_ready (rs := [3, 47]) (by kernel_rfl) (by simp) ?_
    refine AllReadyH.cons (o := { dst := some 43, op := Op.call { callee := Callee.value (Operand.func 54), args := #[Operand.tmp 40, Operand.tmp 42], argTypes := #[109, 30] }, type := 22, pos := "accept_packet.go:49", after := #[{ on := 0, ground := Ground.data }, { on := 2, ground := Ground.data }], guard := none }) rfl (fun K' hK => ?_) ?_
    ·
      go_simp
      go_at_call 54; go_must (refine (U8 _ (H.out.gr hG)).out.mono ?_); rintro e q1 ⟨rfl, hg⟩
      have hG := hG.trans hg
      go_wp2_with fail
      clear hg
      refine hK.out _ _ ⟨hG.cell k4, hG.cell k5, hG.cell k22, hG.cell k23⟩ (fun hHeld => ?_)
      clear hK K'
      try simp only [List.setIfInBounds_toArray, List.set_cons_zero, List.set_cons_succ]
      refine wpAnyH_ready (rs := [7, 47]) (by kernel_rfl) (by simp) ?_
      refine AllReadyH.cons (o := { dst := some 47, op := Op.call { callee := Callee.value (Operand.func 54), args := #[Operand.tmp 44, Operand.tmp 46], argTypes := #[109, 30] }, type := 22, pos := "accept_packet.go:52", after := #[{ on := 4, ground := Ground.data }, { on := 6, ground := Ground.data }, { on := 3, ground := Ground.chain }], guard := none }) rfl (fun K' hK => ?_) ?_
      ·
        go_simp
        go_at_call 54; go_must (refine (U10 _ (H.out.gr hG)).out.mono ?_); rintro e q2 ⟨rfl, hg⟩
        have hG := hG.trans hg
        go_wp2_with fail
        clear hg
        refine hK.out _ _ ⟨hG.cell k4, hG.cell k5, hG.cell k22, hG.cell k23⟩ (fun hHeld => ?_)
        clear hK K'
        try simp only [List.setIfInBounds_toArray, List.set_cons_zero, List.set_cons_succ]
        refine wpAnyH_ready (rs := [11, 47]) (by kernel_rfl) (by simp) ?_
        refine AllReadyH.cons (o := { dst := some 51, op := Op.call { callee := Callee.value (Operand.func 54), args := #[Operand.tmp 48, Operand.tmp 50], argTypes := #[109, 30] }, type := 22, pos := "accept_packet.go:54", after := #[{ on := 8, ground := Ground.data }, { on := 10, ground := Ground.data }, { on := 7, ground := Ground.chain }], guard := none }) rfl (fun K' hK => ?_) ?_
        ·
          go_simp
          go_at_call 54; go_must (refine (U16 _ (H.out.gr hG)).out.mono ?_); rintro e q3 ⟨rfl, hg⟩
          have hG := hG.trans hg
          go_wp2_with fail
          clear hg
          refine hK.out _ _ ⟨hG.cell k4, hG.cell k5, hG.cell k22, hG.cell k23⟩ (fun hHeld => ?_)
          clear hK K'
          try simp only [List.setIfInBounds_toArray, List.set_cons_zero, List.set_cons_succ]
          refine wpAnyH_ready (rs := [22, 47]) (by kernel_rfl) (by simp) ?_
          refine AllReadyH.cons (o := { dst := some 62, op := Op.call { callee := Callee.value (Operand.func 54), args := #[Operand.tmp 59, Operand.tmp 61], argTypes := #[109, 30] }, type := 22, pos := "accept_packet.go:58", after := #[{ on := 19, ground := Ground.data }, { on := 21, ground := Ground.data }, { on := 11, ground := Ground.chain }], guard := none }) rfl (fun K' hK => ?_) ?_
          ·
            go_simp
            go_at_call 54; go_must (refine (U12 _ (H.out.gr hG)).out.mono ?_); rintro e q4 ⟨rfl, hg⟩
            have hG := hG.trans hg
            go_wp2_with fail
            clear hg
            refine hK.out _ _ ⟨hG.cell k4, hG.cell k5, hG.cell k22, hG.cell k23⟩ (fun hHeld => ?_)
            clear hK K'
            try simp only [List.setIfInBounds_toArray, List.set_cons_zero, List.set_cons_succ]
            refine wpAnyH_take (i := 23) (oi := { dst := some 63, op := Op.convert 22 23 (Operand.tmp 62), type := 23, pos := "accept_packet.go:45", after := #[{ on := 22, ground := Ground.data }], guard := none }) (v := ?_) rfl (by kernel_rfl) (by kernel_rfl) (by kernel_rfl) (fun _ _ _ h => h) (Or.inl ⟨by rfl, ?_⟩) (by assumption) ?_
            rotate_left
            · (intro w hSw; (try dsimp only at hSw); go_simp; try with_reducible rfl)
            try simp only [Act.put, List.setIfInBounds_toArray, List.set_cons_zero, List.set_cons_succ]
            refine wpAnyH_ready (rs := [27, 47]) (by kernel_rfl) (by simp) ?_
            refine AllReadyH.cons (o := { dst := some 67, op := Op.call { callee := Callee.value (Operand.func 54), args := #[Operand.tmp 64, Operand.tmp 66], argTypes := #[109, 30] }, type := 22, pos := "accept_packet.go:59", after := #[{ on := 24, ground := Ground.data }, { on := 26, ground := Ground.data }, { on := 22, ground := Ground.chain }], guard := none }) rfl (fun K' hK => ?_) ?_
            ·
              go_simp
              go_at_call 54; go_must (refine (U14 _ (H.out.gr hG)).out.mono ?_); rintro e q5 ⟨rfl, hg⟩
              have hG := hG.trans hg
              go_wp2_with fail
              clear hg
              refine hK.out _ _ ⟨hG.cell k4, hG.cell k5, hG.cell k22, hG.cell k23⟩ (fun hHeld => ?_)
              clear hK K'
              try simp only [List.setIfInBounds_toArray, List.set_cons_zero, List.set_cons_succ]
              refine wpAnyH_take (i := 28) (oi := { dst := some 68, op := Op.convert 22 23 (Operand.tmp 67), type := 23, pos := "accept_packet.go:45", after := #[{ on := 27, ground := Ground.data }], guard := none }) (v := ?_) rfl (by kernel_rfl) (by kernel_rfl) (by kernel_rfl) (fun _ _ _ h => h) (Or.inl ⟨by rfl, ?_⟩) (by assumption) ?_
              rotate_left
              · (intro w hSw; (try dsimp only at hSw); go_simp; try with_reducible rfl)
              try simp only [Act.put, List.setIfInBounds_toArray, List.set_cons_zero, List.set_cons_succ]
              refine wpAnyH_take (i := 29) (oi := { dst := some 69, op := Op.build 93 #[(0, Operand.const (Value.slice none 0 0)), (2, Operand.tmp 43), (3, Operand.const (Value.int IntKind.u16 0)), (4, Operand.const (Value.int IntKind.u16 0)), (5, Operand.tmp 47), (6, Operand.const (Value.int IntKind.u16 0)), (7, Operand.tmp 51), (8, Operand.tmp 52), (10, Operand.tmp 55), (11, Operand.tmp 58), (12, Operand.tmp 63), (13, Operand.tmp 68), (14, Operand.const (Value.bool false)), (15, Operand.const (Value.bool false)), (16, Operand.const (Value.bool false)), (17, Operand.const (Value.bool false))], type := 93, pos := "accept_packet.go:45", after := #[{ on := 3, ground := Ground.data }, { on := 7, ground := Ground.data }, { on := 11, ground := Ground.data }, { on := 12, ground := Ground.data }, { on := 15, ground := Ground.data }, { on := 18, ground := Ground.data }, { on := 23, ground := Ground.data }, { on := 28, ground := Ground.data }], guard := none }) (v := ?_) rfl (by kernel_rfl) (by kernel_rfl) (by kernel_rfl) (fun _ _ _ h => h) (Or.inl ⟨by rfl, ?_⟩) (by assumption) ?_
              rotate_left
              · (intro w hSw; (try dsimp only at hSw); go_simp; try with_reducible rfl)
              try simp only [Act.put, List.setIfInBounds_toArray, List.set_cons_zero, List.set_cons_succ]
              refine wpAnyH_ready (rs := [30, 34, 47]) (by kernel_rfl) (by simp) ?_
              refine AllReadyH.cons (o := { dst := some 70, op := Op.box 93 (Operand.tmp 69), type := 58, pos := "accept_packet.go:45", after := #[{ on := 29, ground := Ground.data }], guard := none }) rfl (fun K' hK => ?_) ?_
              ·
                have hk := heap_alloc_new q5 (.cells #[.slice none 0 0, .string ⟨#[]⟩, .int .u16 V8, .int .u16 0, .int .u16 0, .int .u16 V10, .int .u16 0, .int .u16 V16, .string ⟨#[]⟩, .bool false, .int .u8 A0, .int .u8 A1, .int .u32 V12, .int .u32 V14, .bool false, .bool false, .bool false, .bool false] 93)
                have hbK := hG.size
                have hG := hG.alloc (.cells #[.slice none 0 0, .string ⟨#[]⟩, .int .u16 V8, .int .u16 0, .int .u16 0, .int .u16 V10, .int .u16 0, .int .u16 V16, .string ⟨#[]⟩, .bool false, .int .u8 A0, .int .u8 A1, .int .u32 V12, .int .u32 V14, .bool false, .bool false, .bool false, .bool false] 93)
                go_simp
                generalize q5.heap.size = K at *
                generalize hcc : q5.alloc (.cells #[.slice none 0 0, .string ⟨#[]⟩, .int .u16 V8, .int .u16 0, .int .u16 0, .int .u16 V10, .int .u16 0, .int .u16 V16, .string ⟨#[]⟩, .bool false, .int .u8 A0, .int .u8 A1, .int .u32 V12, .int .u32 V14, .bool false, .bool false, .bool false, .bool false] 93) = q6 at *
                clear hcc
                refine hK.out _ _ ⟨hG.cell k4, hG.cell k5, hG.cell k22, hG.cell k23⟩ (fun hHeld => ?_)
                clear hK K'
                try simp only [List.setIfInBounds_toArray, List.set_cons_zero, List.set_cons_succ]
                refine wpAnyH_ready (rs := [34, 47]) (by kernel_rfl) (by simp) ?_
                refine AllReadyH.cons (o := { dst := some 74, op := Op.call { callee := Callee.value (Operand.func 54), args := #[Operand.tmp 71, Operand.tmp 73], argTypes := #[109, 30] }, type := 22, pos := "accept_packet.go:65", after := #[{ on := 31, ground := Ground.data }, { on := 33, ground := Ground.data }, { on := 27, ground := Ground.chain }], guard := none }) rfl (fun K' hK => ?_) ?_
                ·
                  go_simp
                  go_at_call 54; go_must (refine (U20 _ (H.out.gr hG)).out.mono ?_); rintro e q7 ⟨rfl, hg⟩
                  have hG := hG.trans hg
                  have hk := hg.heap hk
                  go_wp2_with fail
                  clear hg
                  refine hK.out _ _ ⟨hG.cell k4, hG.cell k5, hG.cell k22, hG.cell k23⟩ (fun hHeld => ?_)
                  clear hK K'
                  try simp only [List.setIfInBounds_toArray, List.set_cons_zero, List.set_cons_succ]
                  refine wpAnyH_ready (rs := [37, 47]) (by kernel_rfl) (by simp) ?_
                  refine AllReadyH.cons (o := { dst := some 77, op := Op.call { callee := Callee.value (Operand.func 54), args := #[Operand.tmp 75, Operand.tmp 76], argTypes := #[109, 30] }, type := 22, pos := "accept_packet.go:66", after := #[{ on := 35, ground := Ground.data }, { on := 36, ground := Ground.data }, { on := 34, ground := Ground.chain }], guard := none }) rfl (fun K' hK => ?_) ?_
                  ·
                    go_simp
                    go_at_call 54; go_must (refine (U0 _ (H.out.gr hG)).out.mono ?_); rintro e q8 ⟨rfl, hg⟩
                    have hG := hG.trans hg
                    have hk := hg.heap hk
                    go_wp2_with fail
                    clear hg
                    refine hK.out _ _ ⟨hG.cell k4, hG.cell k5, hG.cell k22, hG.cell k23⟩ (fun hHeld => ?_)
                    clear hK K'
                    try simp only [List.setIfInBounds_toArray, List.set_cons_zero, List.set_cons_succ]
                    refine wpAnyH_take (i := 38) (oi := { dst := some 78, op := Op.convert 22 23 (Operand.tmp 77), type := 23, pos := "accept_packet.go:45", after := #[{ on := 37, ground := Ground.data }], guard := none }) (v := ?_) rfl (by kernel_rfl) (by kernel_rfl) (by kernel_rfl) (fun _ _ _ h => h) (Or.inl ⟨by rfl, ?_⟩) (by assumption) ?_
                    rotate_left
                    · (intro w hSw; (try dsimp only at hSw); go_simp; try with_reducible rfl)
                    try simp only [Act.put, List.setIfInBounds_toArray, List.set_cons_zero, List.set_cons_succ]
                    refine wpAnyH_take (i := 45) (oi := { dst := some 85, op := Op.build 69 #[(4, Operand.tmp 70), (0, Operand.tmp 74), (1, Operand.tmp 78), (2, Operand.tmp 81), (3, Operand.tmp 84)], type := 69, pos := "accept_packet.go:45", after := #[{ on := 30, ground := Ground.data }, { on := 34, ground := Ground.data }, { on := 38, ground := Ground.data }, { on := 41, ground := Ground.data }, { on := 44, ground := Ground.data }], guard := none }) (v := ?_) rfl (by kernel_rfl) (by kernel_rfl) (by kernel_rfl) (fun _ _ _ h => h) (Or.inl ⟨by rfl, ?_⟩) (by assumption) ?_
                    rotate_left
                    · (intro w hSw; (try dsimp only at hSw); go_simp; try with_reducible rfl)
                    try simp only [Act.put, List.setIfInBounds_toArray, List.set_cons_zero, List.set_cons_succ]
                    refine wpAnyH_take (i := 46) (oi := { dst := some 86, op := Op.build 91 #[(0, Operand.tmp 85)], type := 91, pos := "accept_packet.go:45", after := #[{ on := 45, ground := Ground.data }], guard := none }) (v := ?_) rfl (by kernel_rfl) (by kernel_rfl) (by kernel_rfl) (fun _ _ _ h => h) (Or.inl ⟨by rfl, ?_⟩) (by assumption) ?_
                    rotate_left
                    · (intro w hSw; (try dsimp only at hSw); go_simp; try with_reducible rfl)
                    try simp only [Act.put, List.setIfInBounds_toArray, List.set_cons_zero, List.set_cons_succ]
                    refine wpAnyH_ready (rs := [47]) (by kernel_rfl) (by simp) ?_
                    refine AllReadyH.cons (o := { dst := some 6, op := Op.alloc 91, type := 0, pos := "accept_packet.go:45", after := #[], guard := none }) rfl (fun K' hK => ?_) ?_
                    ·
                      have hz := heap_alloc_new q8 (.cells #[.int .u16 0, .int .u32 0, .int .u8 0, .int .u8 0, .pointer none, .slice none 0 0] 91)
                      have hbJ := hG.size
                      have hne := Nat.ne_of_lt (lt_of_some hk)
                      have hk := ((Gr.refl q8).alloc (.cells #[.int .u16 0, .int .u32 0, .int .u8 0, .int .u8 0, .pointer none, .slice none 0 0] 91)).heap hk
                      have hG := hG.alloc (.cells #[.int .u16 0, .int .u32 0, .int .u8 0, .int .u8 0, .pointer none, .slice none 0 0] 91)
                      go_simp
                      generalize q8.heap.size = J at *
                      generalize hcc : q8.alloc (.cells #[.int .u16 0, .int .u32 0, .int .u8 0, .int .u8 0, .pointer none, .slice none 0 0] 91) = q9 at *
                      clear hcc
                      refine hK.out _ _ ⟨hG.cell k4, hG.cell k5, hG.cell k22, hG.cell k23⟩ (fun hHeld => ?_)
                      clear hK K'
                      try simp only [List.setIfInBounds_toArray, List.set_cons_zero, List.set_cons_succ]
                      refine wpAnyH_ready (rs := [48]) (by kernel_rfl) (by simp) ?_
                      refine AllReadyH.cons (o := accStore) rfl (fun K' hK => ?_) ?_
                      ·
                        dsimp only [accStore]
                        obtain ⟨z0, z1, z2, z3, z4, z5, y0, y1, y2, y3, y4, y5⟩ := acc_cells hz
                        have HF := Lib.hid (acc_store (D : Nat) V0 TY FL hz hk (by omega) hbJ hbK hG)
                        have hG := HF.out.1
                        go_simp
                        refine hK.out _ _ ⟨hG.cell k4, hG.cell k5, hG.cell k22, hG.cell k23⟩ (fun hHeld => ?_)
                        clear hK K'
                        try simp only [List.setIfInBounds_toArray, List.set_cons_zero, List.set_cons_succ]
                        refine wpAnyH_done (by kernel_rfl) ?_ _
                        go_wp2_with fail
                        go_meet
                        exact HF.out.2
                      exact AllReadyH.nil
                    exact AllReadyH.nil
                  refine AllReadyH.cons (o := { dst := some 6, op := Op.alloc 91, type := 0, pos := "accept_packet.go:45", after := #[], guard := none }) rfl (fun K' hK => ?_) ?_
                  ·
                    have hz := heap_alloc_new q7 (.cells #[.int .u16 0, .int .u32 0, .int .u8 0, .int .u8 0, .pointer none, .slice none 0 0] 91)
                    have hbJ := hG.size
                    have hne := Nat.ne_of_lt (lt_of_some hk)
                    have hk := ((Gr.refl q7).alloc (.cells #[.int .u16 0, .int .u32 0, .int .u8 0, .int .u8 0, .pointer none, .slice none 0 0] 91)).heap hk
                    have hG := hG.alloc (.cells #[.int .u16 0, .int .u32 0, .int .u8 0, .int .u8 0, .pointer none, .slice none 0 0] 91)
                    go_simp
                    generalize q7.heap.size = J at *
                    generalize hcc : q7.alloc (.cells #[.int .u16 0, .int .u32 0, .int .u8 0, .int .u8 0, .pointer none, .slice none 0 0] 91) = q11 at *
                    clear hcc
                    refine hK.out _ _ ⟨hG.cell k4, hG.cell k5, hG.cell k22, hG.cell k23⟩ (fun hHeld => ?_)
                    clear hK K'
                    try simp only [List.setIfInBounds_toArray, List.set_cons_zero, List.set_cons_succ]
                    refine wpAnyH_ready (rs := [37]) (by kernel_rfl) (by simp) ?_
                    refine AllReadyH.cons (o := { dst := some 77, op := Op.call { callee := Callee.value (Operand.func 54), args := #[Operand.tmp 75, Operand.tmp 76], argTypes := #[109, 30] }, type := 22, pos := "accept_packet.go:66", after := #[{ on := 35, ground := Ground.data }, { on := 36, ground := Ground.data }, { on := 34, ground := Ground.chain }], guard := none }) rfl (fun K' hK => ?_) ?_
                    ·
                      go_simp
                      go_at_call 54; go_must (refine (U0 _ (H.out.gr hG)).out.mono ?_); rintro e q12 ⟨rfl, hg⟩
                      have hG := hG.trans hg
                      have hz := hg.heap hz
                      have hk := hg.heap hk
                      go_wp2_with fail
                      clear hg
                      refine hK.out _ _ ⟨hG.cell k4, hG.cell k5, hG.cell k22, hG.cell k23⟩ (fun hHeld => ?_)
                      clear hK K'
                      try simp only [List.setIfInBounds_toArray, List.set_cons_zero, List.set_cons_succ]
                      refine wpAnyH_take (i := 38) (oi := { dst := some 78, op := Op.convert 22 23 (Operand.tmp 77), type := 23, pos := "accept_packet.go:45", after := #[{ on := 37, ground := Ground.data }], guard := none }) (v := ?_) rfl (by kernel_rfl) (by kernel_rfl) (by kernel_rfl) (fun _ _ _ h => h) (Or.inl ⟨by rfl, ?_⟩) (by assumption) ?_
                      rotate_left
                      · (intro w hSw; (try dsimp only at hSw); go_simp; try with_reducible rfl)
                      try simp only [Act.put, List.setIfInBounds_toArray, List.set_cons_zero, List.set_cons_succ]
                      refine wpAnyH_take (i := 45) (oi := { dst := some 85, op := Op.build 69 #[(4, Operand.tmp 70), (0, Operand.tmp 74), (1, Operand.tmp 78), (2, Operand.tmp 81), (3, Operand.tmp 84)], type := 69, pos := "accept_packet.go:45", after := #[{ on := 30, ground := Ground.data }, { on := 34, ground := Ground.data }, { on := 38, ground := Ground.data }, { on := 41, ground := Ground.data }, { on := 44, ground := Ground.data }], guard := none }) (v := ?_) rfl (by kernel_rfl) (by kernel_rfl) (by kernel_rfl) (fun _ _ _ h => h) (Or.inl ⟨by rfl, ?_⟩) (by assumption) ?_
                      rotate_left
                      · (intro w hSw; (try dsimp only at hSw); go_simp; try with_reducible rfl)
                      try simp only [Act.put, List.setIfInBounds_toArray, List.set_cons_zero, List.set_cons_succ]
                      refine wpAnyH_take (i := 46) (oi := { dst := some 86, op := Op.build 91 #[(0, Operand.tmp 85)], type := 91, pos := "accept_packet.go:45", after := #[{ on := 45, ground := Ground.data }], guard := none }) (v := ?_) rfl (by kernel_rfl) (by kernel_rfl) (by kernel_rfl) (fun _ _ _ h => h) (Or.inl ⟨by rfl, ?_⟩) (by assumption) ?_
                      rotate_left
                      · (intro w hSw; (try dsimp only at hSw); go_simp; try with_reducible rfl)
                      try simp only [Act.put, List.setIfInBounds_toArray, List.set_cons_zero, List.set_cons_succ]
                      refine wpAnyH_ready (rs := [48]) (by kernel_rfl) (by simp) ?_
                      refine AllReadyH.cons (o := accStore) rfl (fun K' hK => ?_) ?_
                      ·
                        dsimp only [accStore]
                        obtain ⟨z0, z1, z2, z3, z4, z5, y0, y1, y2, y3, y4, y5⟩ := acc_cells hz
                        have HF := Lib.hid (acc_store (D : Nat) V0 TY FL hz hk (by omega) hbJ hbK hG)
                        have hG := HF.out.1
                        go_simp
                        refine hK.out _ _ ⟨hG.cell k4, hG.cell k5, hG.cell k22, hG.cell k23⟩ (fun hHeld => ?_)
                        clear hK K'
                        try simp only [List.setIfInBounds_toArray, List.set_cons_zero, List.set_cons_succ]
                        refine wpAnyH_done (by kernel_rfl) ?_ _
                        go_wp2_with fail
                        go_meet
                        exact HF.out.2
                      exact AllReadyH.nil
                    exact AllReadyH.nil
                  exact AllReadyH.nil
                refine AllReadyH.cons (o := { dst := some 6, op := Op.alloc 91, type := 0, pos := "accept_packet.go:45", after := #[], guard := none }) rfl (fun K' hK => ?_) ?_
                ·
                  have hz := heap_alloc_new q6 (.cells #[.int .u16 0, .int .u32 0, .int .u8 0, .int .u8 0, .pointer none, .slice none 0 0] 91)
                  have hbJ := hG.size
                  have hne := Nat.ne_of_lt (lt_of_some hk)
                  have hk := ((Gr.refl q6).alloc (.cells #[.int .u16 0, .int .u32 0, .int .u8 0, .int .u8 0, .pointer none, .slice none 0 0] 91)).heap hk
                  have hG := hG.alloc (.cells #[.int .u16 0, .int .u32 0, .int .u8 0, .int .u8 0, .pointer none, .slice none 0 0] 91)
                  go_simp
                  generalize q6.heap.size = J at *
                  generalize hcc : q6.alloc (.cells #[.int .u16 0, .int .u32 0, .int .u8 0, .int .u8 0, .pointer none, .slice none 0 0] 91) = q14 at *
                  clear hcc
                  refine hK.out _ _ ⟨hG.cell k4, hG.cell k5, hG.cell k22, hG.cell k23⟩ (fun hHeld => ?_)
                  clear hK K'
                  try simp only [List.setIfInBounds_toArray, List.set_cons_zero, List.set_cons_succ]
                  refine wpAnyH_ready (rs := [34]) (by kernel_rfl) (by simp) ?_
                  refine AllReadyH.cons (o := { dst := some 74, op := Op.call { callee := Callee.value (Operand.func 54), args := #[Operand.tmp 71, Operand.tmp 73], argTypes := #[109, 30] }, type := 22, pos := "accept_packet.go:65", after := #[{ on := 31, ground := Ground.data }, { on := 33, ground := Ground.data }, { on := 27, ground := Ground.chain }], guard := none }) rfl (fun K' hK => ?_) ?_
                  ·
                    go_simp
                    go_at_call 54; go_must (refine (U20 _ (H.out.gr hG)).out.mono ?_); rintro e q15 ⟨rfl, hg⟩
                    have hG := hG.trans hg
                    have hz := hg.heap hz
                    have hk := hg.heap hk
                    go_wp2_with fail
                    clear hg
                    refine hK.out _ _ ⟨hG.cell k4, hG.cell k5, hG.cell k22, hG.cell k23⟩ (fun hHeld => ?_)
                    clear hK K'
                    try simp only [List.setIfInBounds_toArray, List.set_cons_zero, List.set_cons_succ]
                    refine wpAnyH_ready (rs := [37]) (by kernel_rfl) (by simp) ?_
                    refine AllReadyH.cons (o := { dst := some 77, op := Op.call { callee := Callee.value (Operand.func 54), args := #[Operand.tmp 75, Operand.tmp 76], argTypes := #[109, 30] }, type := 22, pos := "accept_packet.go:66", after := #[{ on := 35, ground := Ground.data }, { on := 36, ground := Ground.data }, { on := 34, ground := Ground.chain }], guard := none }) rfl (fun K' hK => ?_) ?_
                    ·
                      go_simp
                      go_at_call 54; go_must (refine (U0 _ (H.out.gr hG)).out.mono ?_); rintro e q16 ⟨rfl, hg⟩
                      have hG := hG.trans hg
                      have hz := hg.heap hz
                      have hk := hg.heap hk
                      go_wp2_with fail
                      clear hg
                      refine hK.out _ _ ⟨hG.cell k4, hG.cell k5, hG.cell k22, hG.cell k23⟩ (fun hHeld => ?_)
                      clear hK K'
                      try simp only [List.setIfInBounds_toArray, List.set_cons_zero, List.set_cons_succ]
                      refine wpAnyH_take (i := 38) (oi := { dst := some 78, op := Op.convert 22 23 (Operand.tmp 77), type := 23, pos := "accept_packet.go:45", after := #[{ on := 37, ground := Ground.data }], guard := none }) (v := ?_) rfl (by kernel_rfl) (by kernel_rfl) (by kernel_rfl) (fun _ _ _ h => h) (Or.inl ⟨by rfl, ?_⟩) (by assumption) ?_
                      rotate_left
                      · (intro w hSw; (try dsimp only at hSw); go_simp; try with_reducible rfl)
                      try simp only [Act.put, List.setIfInBounds_toArray, List.set_cons_zero, List.set_cons_succ]
                      refine wpAnyH_take (i := 45) (oi := { dst := some 85, op := Op.build 69 #[(4, Operand.tmp 70), (0, Operand.tmp 74), (1, Operand.tmp 78), (2, Operand.tmp 81), (3, Operand.tmp 84)], type := 69, pos := "accept_packet.go:45", after := #[{ on := 30, ground := Ground.data }, { on := 34, ground := Ground.data }, { on := 38, ground := Ground.data }, { on := 41, ground := Ground.data }, { on := 44, ground := Ground.data }], guard := none }) (v := ?_) rfl (by kernel_rfl) (by kernel_rfl) (by kernel_rfl) (fun _ _ _ h => h) (Or.inl ⟨by rfl, ?_⟩) (by assumption) ?_
                      rotate_left
                      · (intro w hSw; (try dsimp only at hSw); go_simp; try with_reducible rfl)
                      try simp only [Act.put, List.setIfInBounds_toArray, List.set_cons_zero, List.set_cons_succ]
                      refine wpAnyH_take (i := 46) (oi := { dst := some 86, op := Op.build 91 #[(0, Operand.tmp 85)], type := 91, pos := "accept_packet.go:45", after := #[{ on := 45, ground := Ground.data }], guard := none }) (v := ?_) rfl (by kernel_rfl) (by kernel_rfl) (by kernel_rfl) (fun _ _ _ h => h) (Or.inl ⟨by rfl, ?_⟩) (by assumption) ?_
                      rotate_left
                      · (intro w hSw; (try dsimp only at hSw); go_simp; try with_reducible rfl)
                      try simp only [Act.put, List.setIfInBounds_toArray, List.set_cons_zero, List.set_cons_succ]
                      refine wpAnyH_ready (rs := [48]) (by kernel_rfl) (by simp) ?_
                      refine AllReadyH.cons (o := accStore) rfl (fun K' hK => ?_) ?_
                      ·
                        dsimp only [accStore]
                        obtain ⟨z0, z1, z2, z3, z4, z5, y0, y1, y2, y3, y4, y5⟩ := acc_cells hz
                        have HF := Lib.hid (acc_store (D : Nat) V0 TY FL hz hk (by omega) hbJ hbK hG)
                        have hG := HF.out.1
                        go_simp
                        refine hK.out _ _ ⟨hG.cell k4, hG.cell k5, hG.cell k22, hG.cell k23⟩ (fun hHeld => ?_)
                        clear hK K'
                        try simp only [List.setIfInBounds_toArray, List.set_cons_zero, List.set_cons_succ]
                        refine wpAnyH_done (by kernel_rfl) ?_ _
                        go_wp2_with fail
                        go_meet
                        exact HF.out.2
                      exact AllReadyH.nil
                    exact AllReadyH.nil
                  exact AllReadyH.nil
                exact AllReadyH.nil
              refine AllReadyH.cons (o := { dst := some 74, op := Op.call { callee := Callee.value (Operand.func 54), args := #[Operand.tmp 71, Operand.tmp 73], argTypes := #[109, 30] }, type := 22, pos := "accept_packet.go:65", after := #[{ on := 31, ground := Ground.data }, { on := 33, ground := Ground.data }, { on := 27, ground := Ground.chain }], guard := none }) rfl (fun K' hK => ?_) ?_
              ·
                go_simp
                go_at_call 54; go_must (refine (U20 _ (H.out.gr hG)).out.mono ?_); rintro e q18 ⟨rfl, hg⟩
                have hG := hG.trans hg
                go_wp2_with fail
                clear hg
                refine hK.out _ _ ⟨hG.cell k4, hG.cell k5, hG.cell k22, hG.cell k23⟩ (fun hHeld => ?_)
                clear hK K'
                try simp only [List.setIfInBounds_toArray, List.set_cons_zero, List.set_cons_succ]
                refine wpAnyH_ready (rs := [30, 37, 47]) (by kernel_rfl) (by simp) ?_
                refine AllReadyH.cons (o := { dst := some 70, op := Op.box 93 (Operand.tmp 69), type := 58, pos := "accept_packet.go:45", after := #[{ on := 29, ground := Ground.data }], guard := none }) rfl (fun K' hK => ?_) ?_
                ·
                  have hk := heap_alloc_new q18 (.cells #[.slice none 0 0, .string ⟨#[]⟩, .int .u16 V8, .int .u16 0, .int .u16 0, .int .u16 V10, .int .u16 0, .int .u16 V16, .string ⟨#[]⟩, .bool false, .int .u8 A0, .int .u8 A1, .int .u32 V12, .int .u32 V14, .bool false, .bool false, .bool false, .bool false] 93)
                  have hbK := hG.size
                  have hG := hG.alloc (.cells #[.slice none 0 0, .string ⟨#[]⟩, .int .u16 V8, .int .u16 0, .int .u16 0, .int .u16 V10, .int .u16 0, .int .u16 V16, .string ⟨#[]⟩, .bool false, .int .u8 A0, .int .u8 A1, .int .u32 V12, .int .u32 V14, .bool false, .bool false, .bool false, .bool false] 93)
                  go_simp
                  generalize q18.heap.size = K at *
                  generalize hcc : q18.alloc (.cells #[.slice none 0 0, .string ⟨#[]⟩, .int .u16 V8, .int .u16 0, .int .u16 0, .int .u16 V10, .int .u16 0, .int .u16 V16, .string ⟨#[]⟩, .bool false, .int .u8 A0, .int .u8 A1, .int .u32 V12, .int .u32 V14, .bool false, .bool false, .bool false, .bool false] 93) = q19 at *
                  clear hcc
                  refine hK.out _ _ ⟨hG.cell k4, hG.cell k5, hG.cell k22, hG.cell k23⟩ (fun hHeld => ?_)
                  clear hK K'
                  try simp only [List.setIfInBounds_toArray, List.set_cons_zero, List.set_cons_succ]
                  refine wpAnyH_ready (rs := [37, 47]) (by kernel_rfl) (by simp) ?_
                  refine AllReadyH.cons (o := { dst := some 77, op := Op.call { callee := Callee.value (Operand.func 54), args := #[Operand.tmp 75, Operand.tmp 76], argTypes := #[109, 30] }, type := 22, pos := "accept_packet.go:66", after := #[{ on := 35, ground := Ground.data }, { on := 36, ground := Ground.data }, { on := 34, ground := Ground.chain }], guard := none }) rfl (fun K' hK => ?_) ?_
                  ·
                    go_simp
                    go_at_call 54; go_must (refine (U0 _ (H.out.gr hG)).out.mono ?_); rintro e q20 ⟨rfl, hg⟩
                    have hG := hG.trans hg
                    have hk := hg.heap hk
                    go_wp2_with fail
                    clear hg
                    refine hK.out _ _ ⟨hG.cell k4, hG.cell k5, hG.cell k22, hG.cell k23⟩ (fun hHeld => ?_)
                    clear hK K'
                    try simp only [List.setIfInBounds_toArray, List.set_cons_zero, List.set_cons_succ]
                    refine wpAnyH_take (i := 38) (oi := { dst := some 78, op := Op.convert 22 23 (Operand.tmp 77), type := 23, pos := "accept_packet.go:45", after := #[{ on := 37, ground := Ground.data }], guard := none }) (v := ?_) rfl (by kernel_rfl) (by kernel_rfl) (by kernel_rfl) (fun _ _ _ h => h) (Or.inl ⟨by rfl, ?_⟩) (by assumption) ?_
                    rotate_left
                    · (intro w hSw; (try dsimp only at hSw); go_simp; try with_reducible rfl)
                    try simp only [Act.put, List.setIfInBounds_toArray, List.set_cons_zero, List.set_cons_succ]
                    refine wpAnyH_take (i := 45) (oi := { dst := some 85, op := Op.build 69 #[(4, Operand.tmp 70), (0, Operand.tmp 74), (1, Operand.tmp 78), (2, Operand.tmp 81), (3, Operand.tmp 84)], type := 69, pos := "accept_packet.go:45", after := #[{ on := 30, ground := Ground.data }, { on := 34, ground := Ground.data }, { on := 38, ground := Ground.data }, { on := 41, ground := Ground.data }, { on := 44, ground := Ground.data }], guard := none }) (v := ?_) rfl (by kernel_rfl) (by kernel_rfl) (by kernel_rfl) (fun _ _ _ h => h) (Or.inl ⟨by rfl, ?_⟩) (by assumption) ?_
                    rotate_left
                    · (intro w hSw; (try dsimp only at hSw); go_simp; try with_reducible rfl)
                    try simp only [Act.put, List.setIfInBounds_toArray, List.set_cons_zero, List.set_cons_succ]
                    refine wpAnyH_take (i := 46) (oi := { dst := some 86, op := Op.build 91 #[(0, Operand.tmp 85)], type := 91, pos := "accept_packet.go:45", after := #[{ on := 45, ground := Ground.data }], guard := none }) (v := ?_) rfl (by kernel_rfl) (by kernel_rfl) (by kernel_rfl) (fun _ _ _ h => h) (Or.inl ⟨by rfl, ?_⟩) (by assumption) ?_
                    rotate_left
                    · (intro w hSw; (try dsimp only at hSw); go_simp; try with_reducible rfl)
                    try simp only [Act.put, List.setIfInBounds_toArray, List.set_cons_zero, List.set_cons_succ]
                    refine wpAnyH_ready (rs := [47]) (by kernel_rfl) (by simp) ?_
                    refine AllReadyH.cons (o := { dst := some 6, op := Op.alloc 91, type := 0, pos := "accept_packet.go:45", after := #[], guard := none }) rfl (fun K' hK => ?_) ?_
                    ·
                      have hz := heap_alloc_new q20 (.cells #[.int .u16 0, .int .u32 0, .int .u8 0, .int .u8 0, .pointer none, .slice none 0 0] 91)
                      have hbJ := hG.size
                      have hne := Nat.ne_of_lt (lt_of_some hk)
                      have hk := ((Gr.refl q20).alloc (.cells #[.int .u16 0, .int .u32 0, .int .u8 0, .int .u8 0, .pointer none, .slice none 0 0] 91)).heap hk
                      have hG := hG.alloc (.cells #[.int .u16 0, .int .u32 0, .int .u8 0, .int .u8 0, .pointer none, .slice none 0 0] 91)
                      go_simp
                      generalize q20.heap.size = J at *
                      generalize hcc : q20.alloc (.cells #[.int .u16 0, .int .u32 0, .int .u8 0, .int .u8 0, .pointer none, .slice none 0 0] 91) = q21 at *
                      clear hcc
                      refine hK.out _ _ ⟨hG.cell k4, hG.cell k5, hG.cell k22, hG.cell k23⟩ (fun hHeld => ?_)
                      clear hK K'
                      try simp only [List.setIfInBounds_toArray, List.set_cons_zero, List.set_cons_succ]
                      refine wpAnyH_ready (rs := [48]) (by kernel_rfl) (by simp) ?_
                      refine AllReadyH.cons (o := accStore) rfl (fun K' hK => ?_) ?_
                      ·
                        dsimp only [accStore]
                        obtain ⟨z0, z1, z2, z3, z4, z5, y0, y1, y2, y3, y4, y5⟩ := acc_cells hz
                        have HF := Lib.hid (acc_store (D : Nat) V0 TY FL hz hk (by omega) hbJ hbK hG)
                        have hG := HF.out.1
                        go_simp
                        refine hK.out _ _ ⟨hG.cell k4, hG.cell k5, hG.cell k22, hG.cell k23⟩ (fun hHeld => ?_)
                        clear hK K'
                        try simp only [List.setIfInBounds_toArray, List.set_cons_zero, List.set_cons_succ]
                        refine wpAnyH_done (by kernel_rfl) ?_ _
                        go_wp2_with fail
                        go_meet
                        exact HF.out.2
                      exact AllReadyH.nil
                    exact AllReadyH.nil
                  refine AllReadyH.cons (o := { dst := some 6, op := Op.alloc 91, type := 0, pos := "accept_packet.go:45", after := #[], guard := none }) rfl (fun K' hK => ?_) ?_
                  ·
                    have hz := heap_alloc_new q19 (.cells #[.int .u16 0, .int .u32 0, .int .u8 0, .int .u8 0, .pointer none, .slice none 0 0] 91)
                    have hbJ := hG.size
                    have hne := Nat.ne_of_lt (lt_of_some hk)
                    have hk := ((Gr.refl q19).alloc (.cells #[.int .u16 0, .int .u32 0, .int .u8 0, .int .u8 0, .pointer none, .slice none 0 0] 91)).heap hk
                    have hG := hG.alloc (.cells #[.int .u16 0, .int .u32 0, .int .u8 0, .int .u8 0, .pointer none, .slice none 0 0] 91)
                    go_simp
                    generalize q19.heap.size = J at *
                    generalize hcc : q19.alloc (.cells #[.int .u16 0, .int .u32 0, .int .u8 0, .int .u8 0, .pointer none, .slice none 0 0] 91) = q23 at *
                    clear hcc
                    refine hK.out _ _ ⟨hG.cell k4, hG.cell k5, hG.cell k22, hG.cell k23⟩ (fun hHeld => ?_)
                    clear hK K'
                    try simp only [List.setIfInBounds_toArray, List.set_cons_zero, List.set_cons_succ]
                    refine wpAnyH_ready (rs := [37]) (by kernel_rfl) (by simp) ?_
                    refine AllReadyH.cons (o := { dst := some 77, op := Op.call { callee := Callee.value (Operand.func 54), args := #[Operand.tmp 75, Operand.tmp 76], argTypes := #[109, 30] }, type := 22, pos := "accept_packet.go:66", after := #[{ on := 35, ground := Ground.data }, { on := 36, ground := Ground.data }, { on := 34, ground := Ground.chain }], guard := none }) rfl (fun K' hK => ?_) ?_
                    ·
                      go_simp
                      go_at_call 54; go_must (refine (U0 _ (H.out.gr hG)).out.mono ?_); rintro e q24 ⟨rfl, hg⟩
                      have hG := hG.trans hg
                      have hz := hg.heap hz
                      have hk := hg.heap hk
                      go_wp2_with fail
                      clear hg
                      refine hK.out _ _ ⟨hG.cell k4, hG.cell k5, hG.cell k22, hG.cell k23⟩ (fun hHeld => ?_)
                      clear hK K'
                      try simp only [List.setIfInBounds_toArray, List.set_cons_zero, List.set_cons_succ]
                      refine wpAnyH_take (i := 38) (oi := { dst := some 78, op := Op.convert 22 23 (Operand.tmp 77), type := 23, pos := "accept_packet.go:45", after := #[{ on := 37, ground := Ground.data }], guard := none }) (v := ?_) rfl (by kernel_rfl) (by kernel_rfl) (by kernel_rfl) (fun _ _ _ h => h) (Or.inl ⟨by rfl, ?_⟩) (by assumption) ?_
                      rotate_left
                      · (intro w hSw; (try dsimp only at hSw); go_simp; try with_reducible rfl)
                      try simp only [Act.put, List.setIfInBounds_toArray, List.set_cons_zero, List.set_cons_succ]
                      refine wpAnyH_take (i := 45) (oi := { dst := some 85, op := Op.build 69 #[(4, Operand.tmp 70), (0, Operand.tmp 74), (1, Operand.tmp 78), (2, Operand.tmp 81), (3, Operand.tmp 84)], type := 69, pos := "accept_packet.go:45", after := #[{ on := 30, ground := Ground.data }, { on := 34, ground := Ground.data }, { on := 38, ground := Ground.data }, { on := 41, ground := Ground.data }, { on := 44, ground := Ground.data }], guard := none }) (v := ?_) rfl (by kernel_rfl) (by kernel_rfl) (by kernel_rfl) (fun _ _ _ h => h) (Or.inl ⟨by rfl, ?_⟩) (by assumption) ?_
                      rotate_left
                      · (intro w hSw; (try dsimp only at hSw); go_simp; try with_reducible rfl)
                      try simp only [Act.put, List.setIfInBounds_toArray, List.set_cons_zero, List.set_cons_succ]
                      refine wpAnyH_take (i := 46) (oi := { dst := some 86, op := Op.build 91 #[(0, Operand.tmp 85)], type := 91, pos := "accept_packet.go:45", after := #[{ on := 45, ground := Ground.data }], guard := none }) (v := ?_) rfl (by kernel_rfl) (by kernel_rfl) (by kernel_rfl) (fun _ _ _ h => h) (Or.inl ⟨by rfl, ?_⟩) (by assumption) ?_
                      rotate_left
                      · (intro w hSw; (try dsimp only at hSw); go_simp; try with_reducible rfl)
                      try simp only [Act.put, List.setIfInBounds_toArray, List.set_cons_zero, List.set_cons_succ]
                      refine wpAnyH_ready (rs := [48]) (by kernel_rfl) (by simp) ?_
                      refine AllReadyH.cons (o := accStore) rfl (fun K' hK => ?_) ?_
                      ·
                        dsimp only [accStore]
                        obtain ⟨z0, z1, z2, z3, z4, z5, y0, y1, y2, y3, y4, y5⟩ := acc_cells hz
                        have HF := Lib.hid (acc_store (D : Nat) V0 TY FL hz hk (by omega) hbJ hbK hG)
                        have hG := HF.out.1
                        go_simp
                        refine hK.out _ _ ⟨hG.cell k4, hG.cell k5, hG.cell k22, hG.cell k23⟩ (fun hHeld => ?_)
                        clear hK K'
                        try simp only [List.setIfInBounds_toArray, List.set_cons_zero, List.set_cons_succ]
                        refine wpAnyH_done (by kernel_rfl) ?_ _
                        go_wp2_with fail
                        go_meet
                        exact HF.out.2
                      exact AllReadyH.nil
                    exact AllReadyH.nil
                  exact AllReadyH.nil
                refine AllReadyH.cons (o := { dst := some 77, op := Op.call { callee := Callee.value (Operand.func 54), args := #[Operand.tmp 75, Operand.tmp 76], argTypes := #[109, 30] }, type := 22, pos := "accept_packet.go:66", after := #[{ on := 35, ground := Ground.data }, { on := 36, ground := Ground.data }, { on := 34, ground := Ground.chain }], guard := none }) rfl (fun K' hK => ?_) ?_
                ·
                  go_simp
                  go_at_call 54; go_must (refine (U0 _ (H.out.gr hG)).out.mono ?_); rintro e q26 ⟨rfl, hg⟩
                  have hG := hG.trans hg
                  go_wp2_with fail
                  clear hg
                  refine hK.out _ _ ⟨hG.cell k4, hG.cell k5, hG.cell k22, hG.cell k23⟩ (fun hHeld => ?_)
                  clear hK K'
                  try simp only [List.setIfInBounds_toArray, List.set_cons_zero, List.set_cons_succ]
                  refine wpAnyH_take (i := 38) (oi := { dst := some 78, op := Op.convert 22 23 (Operand.tmp 77), type := 23, pos := "accept_packet.go:45", after := #[{ on := 37, ground := Ground.data }], guard := none }) (v := ?_) rfl (by kernel_rfl) (by kernel_rfl) (by kernel_rfl) (fun _ _ _ h => h) (Or.inl ⟨by rfl, ?_⟩) (by assumption) ?_
                  rotate_left
                  · (intro w hSw; (try dsimp only at hSw); go_simp; try with_reducible rfl)
                  try simp only [Act.put, List.setIfInBounds_toArray, List.set_cons_zero, List.set_cons_succ]
                  refine wpAnyH_ready (rs := [30, 47]) (by kernel_rfl) (by simp) ?_
                  refine AllReadyH.cons (o := { dst := some 70, op := Op.box 93 (Operand.tmp 69), type := 58, pos := "accept_packet.go:45", after := #[{ on := 29, ground := Ground.data }], guard := none }) rfl (fun K' hK => ?_) ?_
                  ·
                    have hk := heap_alloc_new q26 (.cells #[.slice none 0 0, .string ⟨#[]⟩, .int .u16 V8, .int .u16 0, .int .u16 0, .int .u16 V10, .int .u16 0, .int .u16 V16, .string ⟨#[]⟩, .bool false, .int .u8 A0, .int .u8 A1, .int .u32 V12, .int .u32 V14, .bool false, .bool false, .bool false, .bool false] 93)
                    have hbK := hG.size
                    have hG := hG.alloc (.cells #[.slice none 0 0, .string ⟨#[]⟩, .int .u16 V8, .int .u16 0, .int .u16 0, .int .u16 V10, .int .u16 0, .int .u16 V16, .string ⟨#[]⟩, .bool false, .int .u8 A0, .int .u8 A1, .int .u32 V12, .int .u32 V14, .bool false, .bool false, .bool false, .bool false] 93)
                    go_simp
                    generalize q26.heap.size = K at *
                    generalize hcc : q26.alloc (.cells #[.slice none 0 0, .string ⟨#[]⟩, .int .u16 V8, .int .u16 0, .int .u16 0, .int .u16 V10, .int .u16 0, .int .u16 V16, .string ⟨#[]⟩, .bool false, .int .u8 A0, .int .u8 A1, .int .u32 V12, .int .u32 V14, .bool false, .bool false, .bool false, .bool false] 93) = q27 at *
                    clear hcc
                    refine hK.out _ _ ⟨hG.cell k4, hG.cell k5, hG.cell k22, hG.cell k23⟩ (fun hHeld => ?_)
                    clear hK K'
                    try simp only [List.setIfInBounds_toArray, List.set_cons_zero, List.set_cons_succ]
                    refine wpAnyH_take (i := 45) (oi := { dst := some 85, op := Op.build 69 #[(4, Operand.tmp 70), (0, Operand.tmp 74), (1, Operand.tmp 78), (2, Operand.tmp 81), (3, Operand.tmp 84)], type := 69, pos := "accept_packet.go:45", after := #[{ on := 30, ground := Ground.data }, { on := 34, ground := Ground.data }, { on := 38, ground := Ground.data }, { on := 41, ground := Ground.data }, { on := 44, ground := Ground.data }], guard := none }) (v := ?_) rfl (by kernel_rfl) (by kernel_rfl) (by kernel_rfl) (fun _ _ _ h => h) (Or.inl ⟨by rfl, ?_⟩) (by assumption) ?_
                    rotate_left
                    · (intro w hSw; (try dsimp only at hSw); go_simp; try with_reducible rfl)
                    try simp only [Act.put, List.setIfInBounds_toArray, List.set_cons_zero, List.set_cons_succ]
                    refine wpAnyH_take (i := 46) (oi := { dst := some 86, op := Op.build 91 #[(0, Operand.tmp 85)], type := 91, pos := "accept_packet.go:45", after := #[{ on := 45, ground := Ground.data }], guard := none }) (v := ?_) rfl (by kernel_rfl) (by kernel_rfl) (by kernel_rfl) (fun _ _ _ h => h) (Or.inl ⟨by rfl, ?_⟩) (by assumption) ?_
                    rotate_left
                    · (intro w hSw; (try dsimp only at hSw); go_simp; try with_reducible rfl)
                    try simp only [Act.put, List.setIfInBounds_toArray, List.set_cons_zero, List.set_cons_succ]
                    refine wpAnyH_ready (rs := [47]) (by kernel_rfl) (by simp) ?_
                    refine AllReadyH.cons (o := { dst := some 6, op := Op.alloc 91, type := 0, pos := "accept_packet.go:45", after := #[], guard := none }) rfl (fun K' hK => ?_) ?_
                    ·
                      have hz := heap_alloc_new q27 (.cells #[.int .u16 0, .int .u32 0, .int .u8 0, .int .u8 0, .pointer none, .slice none 0 0] 91)
                      have hbJ := hG.size
                      have hne := Nat.ne_of_lt (lt_of_some hk)
                      have hk := ((Gr.refl q27).alloc (.cells #[.int .u16 0, .int .u32 0, .int .u8 0, .int .u8 0, .pointer none, .slice none 0 0] 91)).heap hk
                      have hG := hG.alloc (.cells #[.int .u16 0, .int .u32 0, .int .u8 0, .int .u8 0, .pointer none, .slice none 0 0] 91)
                      go_simp
                      generalize q27.heap.size = J at *
                      generalize hcc : q27.alloc (.cells #[.int .u16 0, .int .u32 0, .int .u8 0, .int .u8 0, .pointer none, .slice none 0 0] 91) = q28 at *
                      clear hcc
                      refine hK.out _ _ ⟨hG.cell k4, hG.cell k5, hG.cell k22, hG.cell k23⟩ (fun hHeld => ?_)
                      clear hK K'
                      try simp only [List.setIfInBounds_toArray, List.set_cons_zero, List.set_cons_succ]
                      refine wpAnyH_ready (rs := [48]) (by kernel_rfl) (by simp) ?_
                      refine AllReadyH.cons (o := accStore) rfl (fun K' hK => ?_) ?_
                      ·
                        dsimp only [accStore]
                        obtain ⟨z0, z1, z2, z3, z4, z5, y0, y1, y2, y3, y4, y5⟩ := acc_cells hz
                        have HF := Lib.hid (acc_store (D : Nat) V0 TY FL hz hk (by omega) hbJ hbK hG)
                        have hG := HF.out.1
                        go_simp
                        refine hK.out _ _ ⟨hG.cell k4, hG.cell k5, hG.cell k22, hG.cell k23⟩ (fun hHeld => ?_)
                        clear hK K'
                        try simp only [List.setIfInBounds_toArray, List.set_cons_zero, List.set_cons_succ]
                        refine wpAnyH_done (by kernel_rfl) ?_ _
                        go_wp2_with fail
                        go_meet
                        exact HF.out.2
                      exact AllReadyH.nil
                    exact AllReadyH.nil
                  refine AllReadyH.cons (o := { dst := some 6, op := Op.alloc 91, type := 0, pos := "accept_packet.go:45", after := #[], guard := none }) rfl (fun K' hK => ?_) ?_
                  ·
                    have hz := heap_alloc_new q26 (.cells #[.int .u16 0, .int .u32 0, .int .u8 0, .int .u8 0, .pointer none, .slice none 0 0] 91)
                    have hbJ := hG.size
                    have hG := hG.alloc (.cells #[.int .u16 0, .int .u32 0, .int .u8 0, .int .u8 0, .pointer none, .slice none 0 0] 91)
                    go_simp
                    generalize q26.heap.size = J at *
                    generalize hcc : q26.alloc (.cells #[.int .u16 0, .int .u32 0, .int .u8 0, .int .u8 0, .pointer none, .slice none 0 0] 91) = q30 at *
                    clear hcc
                    refine hK.out _ _ ⟨hG.cell k4, hG.cell k5, hG.cell k22, hG.cell k23⟩ (fun hHeld => ?_)
                    clear hK K'
                    try simp only [List.setIfInBounds_toArray, List.set_cons_zero, List.set_cons_succ]
                    refine wpAnyH_ready (rs := [30]) (by kernel_rfl) (by simp) ?_
                    refine AllReadyH.cons (o := { dst := some 70, op := Op.box 93 (Operand.tmp 69), type := 58, pos := "accept_packet.go:45", after := #[{ on := 29, ground := Ground.data }], guard := none }) rfl (fun K' hK => ?_) ?_
                    ·
                      have hk := heap_alloc_new q30 (.cells #[.slice none 0 0, .string ⟨#[]⟩, .int .u16 V8, .int .u16 0, .int .u16 0, .int .u16 V10, .int .u16 0, .int .u16 V16, .string ⟨#[]⟩, .bool false, .int .u8 A0, .int .u8 A1, .int .u32 V12, .int .u32 V14, .bool false, .bool false, .bool false, .bool false] 93)
                      have hbK := hG.size
                      have hne := Nat.ne_of_lt (lt_of_some hz)
                      have hz := ((Gr.refl q30).alloc (.cells #[.slice none 0 0, .string ⟨#[]⟩, .int .u16 V8, .int .u16 0, .int .u16 0, .int .u16 V10, .int .u16 0, .int .u16 V16, .string ⟨#[]⟩, .bool false, .int .u8 A0, .int .u8 A1, .int .u32 V12, .int .u32 V14, .bool false, .bool false, .bool false, .bool false] 93)).heap hz
                      have hG := hG.alloc (.cells #[.slice none 0 0, .string ⟨#[]⟩, .int .u16 V8, .int .u16 0, .int .u16 0, .int .u16 V10, .int .u16 0, .int .u16 V16, .string ⟨#[]⟩, .bool false, .int .u8 A0, .int .u8 A1, .int .u32 V12, .int .u32 V14, .bool false, .bool false, .bool false, .bool false] 93)
                      go_simp
                      generalize q30.heap.size = K at *
                      generalize hcc : q30.alloc (.cells #[.slice none 0 0, .string ⟨#[]⟩, .int .u16 V8, .int .u16 0, .int .u16 0, .int .u16 V10, .int .u16 0, .int .u16 V16, .string ⟨#[]⟩, .bool false, .int .u8 A0, .int .u8 A1, .int .u32 V12, .int .u32 V14, .bool false, .bool false, .bool false, .bool false] 93) = q31 at *
                      clear hcc
                      refine hK.out _ _ ⟨hG.cell k4, hG.cell k5, hG.cell k22, hG.cell k23⟩ (fun hHeld => ?_)
                      clear hK K'
                      try simp only [List.setIfInBounds_toArray, List.set_cons_zero, List.set_cons_succ]
                      refine wpAnyH_take (i := 45) (oi := { dst := some 85, op := Op.build 69 #[(4, Operand.tmp 70), (0, Operand.tmp 74), (1, Operand.tmp 78), (2, Operand.tmp 81), (3, Operand.tmp 84)], type := 69, pos := "accept_packet.go:45", after := #[{ on := 30, ground := Ground.data }, { on := 34, ground := Ground.data }, { on := 38, ground := Ground.data }, { on := 41, ground := Ground.data }, { on := 44, ground := Ground.data }], guard := none }) (v := ?_) rfl (by kernel_rfl) (by kernel_rfl) (by kernel_rfl) (fun _ _ _ h => h) (Or.inl ⟨by rfl, ?_⟩) (by assumption) ?_
                      rotate_left
                      · (intro w hSw; (try dsimp only at hSw); go_simp; try with_reducible rfl)
                      try simp only [Act.put, List.setIfInBounds_toArray, List.set_cons_zero, List.set_cons_succ]
                      refine wpAnyH_take (i := 46) (oi := { dst := some 86, op := Op.build 91 #[(0, Operand.tmp 85)], type := 91, pos := "accept_packet.go:45", after := #[{ on := 45, ground := Ground.data }], guard := none }) (v := ?_) rfl (by kernel_rfl) (by kernel_rfl) (by kernel_rfl) (fun _ _ _ h => h) (Or.inl ⟨by rfl, ?_⟩) (by assumption) ?_
                      rotate_left
                      · (intro w hSw; (try dsimp only at hSw); go_simp; try with_reducible rfl)
                      try simp only [Act.put, List.setIfInBounds_toArray, List.set_cons_zero, List.set_cons_succ]
                      refine wpAnyH_ready (rs := [48]) (by kernel_rfl) (by simp) ?_
                      refine AllReadyH.cons (o := accStore) rfl (fun K' hK => ?_) ?_
                      ·
                        dsimp only [accStore]
                        obtain ⟨z0, z1, z2, z3, z4, z5, y0, y1, y2, y3, y4, y5⟩ := acc_cells hz
                        have HF := Lib.hid (acc_store (D : Nat) V0 TY FL hz hk (by omega) hbJ hbK hG)
                        have hG := HF.out.1
                        go_simp
                        refine hK.out _ _ ⟨hG.cell k4, hG.cell k5, hG.cell k22, hG.cell k23⟩ (fun hHeld => ?_)
                        clear hK K'
                        try simp only [List.setIfInBounds_toArray, List.set_cons_zero, List.set_cons_succ]
                        refine wpAnyH_done (by kernel_rfl) ?_ _
                        go_wp2_with fail
                        go_meet
                        exact HF.out.2
                      exact AllReadyH.nil
                    exact AllReadyH.nil
                  exact AllReadyH.nil
                refine AllReadyH.cons (o := { dst := some 6, op := Op.alloc 91, type := 0, pos := "accept_packet.go:45", after := #[], guard := none }) rfl (fun K' hK => ?_) ?_
                ·
                  have hz := heap_alloc_new q18 (.cells #[.int .u16 0, .int .u32 0, .int .u8 0, .int .u8 0, .pointer none, .slice none 0 0] 91)
                  have hbJ := hG.size
                  have hG := hG.alloc (.cells #[.int .u16 0, .int .u32 0, .int .u8 0, .int .u8 0, .pointer none, .slice none 0 0] 91)
                  go_simp
                  generalize q18.heap.size = J at *
                  generalize hcc : q18.alloc (.cells #[.int .u16 0, .int .u32 0, .int .u8 0, .int .u8 0, .pointer none, .slice none 0 0] 91) = q33 at *
                  clear hcc
                  refine hK.out _ _ ⟨hG.cell k4, hG.cell k5, hG.cell k22, hG.cell k23⟩ (fun hHeld => ?_)
                  clear hK K'
                  try simp only [List.setIfInBounds_toArray, List.set_cons_zero, List.set_cons_succ]
                  refine wpAnyH_ready (rs := [30, 37]) (by kernel_rfl) (by simp) ?_
                  refine AllReadyH.cons (o := { dst := some 70, op := Op.box 93 (Operand.tmp 69), type := 58, pos := "accept_packet.go:45", after := #[{ on := 29, ground := Ground.data }], guard := none }) rfl (fun K' hK => ?_) ?_
                  ·
                    have hk := heap_alloc_new q33 (.cells #[.slice none 0 0, .string ⟨#[]⟩, .int .u16 V8, .int .u16 0, .int .u16 0, .int .u16 V10, .int .u16 0, .int .u16 V16, .string ⟨#[]⟩, .bool false, .int .u8 A0, .int .u8 A1, .int .u32 V12, .int .u32 V14, .bool false, .bool false, .bool false, .bool false] 93)
                    have hbK := hG.size
                    have hne := Nat.ne_of_lt (lt_of_some hz)
                    have hz := ((Gr.refl q33).alloc (.cells #[.slice none 0 0, .string ⟨#[]⟩, .int .u16 V8, .int .u16 0, .int .u16 0, .int .u16 V10, .int .u16 0, .int .u16 V16, .string ⟨#[]⟩, .bool false, .int .u8 A0, .int .u8 A1, .int .u32 V12, .int .u32 V14, .bool false, .bool false, .bool false, .bool false] 93)).heap hz
                    have hG := hG.alloc (.cells #[.slice none 0 0, .string ⟨#[]⟩, .int .u16 V8, .int .u16 0, .int .u16 0, .int .u16 V10, .int .u16 0, .int .u16 V16, .string ⟨#[]⟩, .bool false, .int .u8 A0, .int .u8 A1, .int .u32 V12, .int .u32 V14, .bool false, .bool false, .bool false, .bool false] 93)
                    go_simp
                    generalize q33.heap.size = K at *
                    generalize hcc : q33.alloc (.cells #[.slice none 0 0, .string ⟨#[]⟩, .int .u16 V8, .int .u16 0, .int .u16 0, .int .u16 V10, .int .u16 0, .int .u16 V16, .string ⟨#[]⟩, .bool false, .int .u8 A0, .int .u8 A1, .int .u32 V12, .int .u32 V14, .bool false, .bool false, .bool false, .bool false] 93) = q34 at *
                    clear hcc
                    refine hK.out _ _ ⟨hG.cell k4, hG.cell k5, hG.cell k22, hG.cell k23⟩ (fun hHeld => ?_)
                    clear hK K'
                    try simp only [List.setIfInBounds_toArray, List.set_cons_zero, List.set_cons_succ]
                    refine wpAnyH_ready (rs := [37]) (by kernel_rfl) (by simp) ?_
                    refine AllReadyH.cons (o := { dst := some 77, op := Op.call { callee := Callee.value (Operand.func 54), args := #[Operand.tmp 75, Operand.tmp 76], argTypes := #[109, 30] }, type := 22, pos := "accept_packet.go:66", after := #[{ on := 35, ground := Ground.data }, { on := 36, ground := Ground.data }, { on := 34, ground := Ground.chain }], guard := none }) rfl (fun K' hK => ?_) ?_
                    ·
                      go_simp
                      go_at_call 54; go_must (refine (U0 _ (H.out.gr hG)).out.mono ?_); rintro e q35 ⟨rfl, hg⟩
                      have hG := hG.trans hg
                      have hz := hg.heap hz
                      have hk := hg.heap hk
                      go_wp2_with fail
                      clear hg
                      refine hK.out _ _ ⟨hG.cell k4, hG.cell k5, hG.cell k22, hG.cell k23⟩ (fun hHeld => ?_)
                      clear hK K'
                      try simp only [List.setIfInBounds_toArray, List.set_cons_zero, List.set_cons_succ]
                      refine wpAnyH_take (i := 38) (oi := { dst := some 78, op := Op.convert 22 23 (Operand.tmp 77), type := 23, pos := "accept_packet.go:45", after := #[{ on := 37, ground := Ground.data }], guard := none }) (v := ?_) rfl (by kernel_rfl) (by kernel_rfl) (by kernel_rfl) (fun _ _ _ h => h) (Or.inl ⟨by rfl, ?_⟩) (by assumption) ?_
                      rotate_left
                      · (intro w hSw; (try dsimp only at hSw); go_simp; try with_reducible rfl)
                      try simp only [Act.put, List.setIfInBounds_toArray, List.set_cons_zero, List.set_cons_succ]
                      refine wpAnyH_take (i := 45) (oi := { dst := some 85, op := Op.build 69 #[(4, Operand.tmp 70), (0, Operand.tmp 74), (1, Operand.tmp 78), (2, Operand.tmp 81), (3, Operand.tmp 84)], type := 69, pos := "accept_packet.go:45", after := #[{ on := 30, ground := Ground.data }, { on := 34, ground := Ground.data }, { on := 38, ground := Ground.data }, { on := 41, ground := Ground.data }, { on := 44, ground := Ground.data }], guard := none }) (v := ?_) rfl (by kernel_rfl) (by kernel_rfl) (by kernel_rfl) (fun _ _ _ h => h) (Or.inl ⟨by rfl, ?_⟩) (by assumption) ?_
                      rotate_left
                      · (intro w hSw; (try dsimp only at hSw); go_simp; try with_reducible rfl)
                      try simp only [Act.put, List.setIfInBounds_toArray, List.set_cons_zero, List.set_cons_succ]
                      refine wpAnyH_take (i := 46) (oi := { dst := some 86, op := Op.build 91 #[(0, Operand.tmp 85)], type := 91, pos := "accept_packet.go:45", after := #[{ on := 45, ground := Ground.data }], guard := none }) (v := ?_) rfl (by kernel_rfl) (by kernel_rfl) (by kernel_rfl) (fun _ _ _ h => h) (Or.inl ⟨by rfl, ?_⟩) (by assumption) ?_
                      rotate_left
                      · (intro w hSw; (try dsimp only at hSw); go_simp; try with_reducible rfl)
                      try simp only [Act.put, List.setIfInBounds_toArray, List.set_cons_zero, List.set_cons_succ]
                      refine wpAnyH_ready (rs := [48]) (by kernel_rfl) (by simp) ?_
                      refine AllReadyH.cons (o := accStore) rfl (fun K' hK => ?_) ?_
                      ·
                        dsimp only [accStore]
                        obtain ⟨z0, z1, z2, z3, z4, z5, y0, y1, y2, y3, y4, y5⟩ := acc_cells hz
                        have HF := Lib.hid (acc_store (D : Nat) V0 TY FL hz hk (by omega) hbJ hbK hG)
                        have hG := HF.out.1
                        go_simp
                        refine hK.out _ _ ⟨hG.cell k4, hG.cell k5, hG.cell k22, hG.cell k23⟩ (fun hHeld => ?_)
                        clear hK K'
                        try simp only [List.setIfInBounds_toArray, List.set_cons_zero, List.set_cons_succ]
                        refine wpAnyH_done (by kernel_rfl) ?_ _
                        go_wp2_with fail
                        go_meet
                        exact HF.out.2
                      exact AllReadyH.nil
                    exact AllReadyH.nil
                  refine AllReadyH.cons (o := { dst := some 77, op := Op.call { callee := Callee.value (Operand.func 54), args := #[Operand.tmp 75, Operand.tmp 76], argTypes := #[109, 30] }, type := 22, pos := "accept_packet.go:66", after := #[{ on := 35, ground := Ground.data }, { on := 36, ground := Ground.data }, { on := 34, ground := Ground.chain }], guard := none }) rfl (fun K' hK => ?_) ?_
                  ·
                    go_simp
                    go_at_call 54; go_must (refine (U0 _ (H.out.gr hG)).out.mono ?_); rintro e q37 ⟨rfl, hg⟩
                    have hG := hG.trans hg
                    have hz := hg.heap hz
                    go_wp2_with fail
                    clear hg
                    refine hK.out _ _ ⟨hG.cell k4, hG.cell k5, hG.cell k22, hG.cell k23⟩ (fun hHeld => ?_)
                    clear hK K'
                    try simp only [List.setIfInBounds_toArray, List.set_cons_zero, List.set_cons_succ]
                    refine wpAnyH_take (i := 38) (oi := { dst := some 78, op := Op.convert 22 23 (Operand.tmp 77), type := 23, pos := "accept_packet.go:45", after := #[{ on := 37, ground := Ground.data }], guard := none }) (v := ?_) rfl (by kernel_rfl) (by kernel_rfl) (by kernel_rfl) (fun _ _ _ h => h) (Or.inl ⟨by rfl, ?_⟩) (by assumption) ?_
                    rotate_left
                    · (intro w hSw; (try dsimp only at hSw); go_simp; try with_reducible rfl)
                    try simp only [Act.put, List.setIfInBounds_toArray, List.set_cons_zero, List.set_cons_succ]
                    refine wpAnyH_ready (rs := [30]) (by kernel_rfl) (by simp) ?_
                    refine AllReadyH.cons (o := { dst := some 70, op := Op.box 93 (Operand.tmp 69), type := 58, pos := "accept_packet.go:45", after := #[{ on := 29, ground := Ground.data }], guard := none }) rfl (fun K' hK => ?_) ?_
                    ·
                      have hk := heap_alloc_new q37 (.cells #[.slice none 0 0, .string ⟨#[]⟩, .int .u16 V8, .int .u16 0, .int .u16 0, .int .u16 V10, .int .u16 0, .int .u16 V16, .string ⟨#[]⟩, .bool false, .int .u8 A0, .int .u8 A1, .int .u32 V12, .int .u32 V14, .bool false, .bool false, .bool false, .bool false] 93)
                      have hbK := hG.size
                      have hne := Nat.ne_of_lt (lt_of_some hz)
                      have hz := ((Gr.refl q37).alloc (.cells #[.slice none 0 0, .string ⟨#[]⟩, .int .u16 V8, .int .u16 0, .int .u16 0, .int .u16 V10, .int .u16 0, .int .u16 V16, .string ⟨#[]⟩, .bool false, .int .u8 A0, .int .u8 A1, .int .u32 V12, .int .u32 V14, .bool false, .bool false, .bool false, .bool false] 93)).heap hz
                      have hG := hG.alloc (.cells #[.slice none 0 0, .string ⟨#[]⟩, .int .u16 V8, .int .u16 0, .int .u16 0, .int .u16 V10, .int .u16 0, .int .u16 V16, .string ⟨#[]⟩, .bool false, .int .u8 A0, .int .u8 A1, .int .u32 V12, .int .u32 V14, .bool false, .bool false, .bool false, .bool false] 93)
                      go_simp
                      generalize q37.heap.size = K at *
                      generalize hcc : q37.alloc (.cells #[.slice none 0 0, .string ⟨#[]⟩, .int .u16 V8, .int .u16 0, .int .u16 0, .int .u16 V10, .int .u16 0, .int .u16 V16, .string ⟨#[]⟩, .bool false, .int .u8 A0, .int .u8 A1, .int .u32 V12, .int .u32 V14, .bool false, .bool false, .bool false, .bool false] 93) = q38 at *
                      clear hcc
                      refine hK.out _ _ ⟨hG.cell k4, hG.cell k5, hG.cell k22, hG.cell k23⟩ (fun hHeld => ?_)
                      clear hK K'
                      try simp only [List.setIfInBounds_toArray, List.set_cons_zero, List.set_cons_succ]
                      refine wpAnyH_take (i := 45) (oi := { dst := some 85, op := Op.build 69 #[(4, Operand.tmp 70), (0, Operand.tmp 74), (1, Operand.tmp 78), (2, Operand.tmp 81), (3, Operand.tmp 84)], type := 69, pos := "accept_packet.go:45", after := #[{ on := 30, ground := Ground.data }, { on := 34, ground := Ground.data }, { on := 38, ground := Ground.data }, { on := 41, ground := Ground.data }, { on := 44, ground := Ground.data }], guard := none }) (v := ?_) rfl (by kernel_rfl) (by kernel_rfl) (by kernel_rfl) (fun _ _ _ h => h) (Or.inl ⟨by rfl, ?_⟩) (by assumption) ?_
                      rotate_left
                      · (intro w hSw; (try dsimp only at hSw); go_simp; try with_reducible rfl)
                      try simp only [Act.put, List.setIfInBounds_toArray, List.set_cons_zero, List.set_cons_succ]
                      refine wpAnyH_take (i := 46) (oi := { dst := some 86, op := Op.build 91 #[(0, Operand.tmp 85)], type := 91, pos := "accept_packet.go:45", after := #[{ on := 45, ground := Ground.data }], guard := none }) (v := ?_) rfl (by kernel_rfl) (by kernel_rfl) (by kernel_rfl) (fun _ _ _ h => h) (Or.inl ⟨by rfl, ?_⟩) (by assumption) ?_
                      rotate_left
                      · (intro w hSw; (try dsimp only at hSw); go_simp; try with_reducible rfl)
                      try simp only [Act.put, List.setIfInBounds_toArray, List.set_cons_zero, List.set_cons_succ]
                      refine wpAnyH_ready (rs := [48]) (by kernel_rfl) (by simp) ?_
                      refine AllReadyH.cons (o := accStore) rfl (fun K' hK => ?_) ?_
                      ·
                        dsimp only [accStore]
                        obtain ⟨z0, z1, z2, z3, z4, z5, y0, y1, y2, y3, y4, y5⟩ := acc_cells hz
                        have HF := Lib.hid (acc_store (D : Nat) V0 TY FL hz hk (by omega) hbJ hbK hG)
                        have hG := HF.out.1
                        go_simp
                        refine hK.out _ _ ⟨hG.cell k4, hG.cell k5, hG.cell k22, hG.cell k23⟩ (fun hHeld => ?_)
                        clear hK K'
                        try simp only [List.setIfInBounds_toArray, List.set_cons_zero, List.set_cons_succ]
                        refine wpAnyH_done (by kernel_rfl) ?_ _
                        go_wp2_with fail
                        go_meet
                        exact HF.out.2
                      exact AllReadyH.nil
                    exact AllReadyH.nil
                  exact AllReadyH.nil
                exact AllReadyH.nil
              refine AllReadyH.cons (o := { dst := some 6, op := Op.alloc 91, type := 0, pos := "accept_packet.go:45", after := #[], guard := none }) rfl (fun K' hK => ?_) ?_
              ·
                have hz := heap_alloc_new q5 (.cells #[.int .u16 0, .int .u32 0, .int .u8 0, .int .u8 0, .pointer none, .slice none 0 0] 91)
                have hbJ := hG.size
                have hG := hG.alloc (.cells #[.int .u16 0, .int .u32 0, .int .u8 0, .int .u8 0, .pointer none, .slice none 0 0] 91)
                go_simp
                generalize q5.heap.size = J at *
                generalize hcc : q5.alloc (.cells #[.int .u16 0, .int .u32 0, .int .u8 0, .int .u8 0, .pointer none, .slice none 0 0] 91) = q40 at *
                clear hcc
                refine hK.out _ _ ⟨hG.cell k4, hG.cell k5, hG.cell k22, hG.cell k23⟩ (fun hHeld => ?_)
                clear hK K'
                try simp only [List.setIfInBounds_toArray, List.set_cons_zero, List.set_cons_succ]
                refine wpAnyH_ready (rs := [30, 34]) (by kernel_rfl) (by simp) ?_
                refine AllReadyH.cons (o := { dst := some 70, op := Op.box 93 (Operand.tmp 69), type := 58, pos := "accept_packet.go:45", after := #[{ on := 29, ground := Ground.data }], guard := none }) rfl (fun K' hK => ?_) ?_
                ·
                  have hk := heap_alloc_new q40 (.cells #[.slice none 0 0, .string ⟨#[]⟩, .int .u16 V8, .int .u16 0, .int .u16 0, .int .u16 V10, .int .u16 0, .int .u16 V16, .string ⟨#[]⟩, .bool false, .int .u8 A0, .int .u8 A1, .int .u32 V12, .int .u32 V14, .bool false, .bool false, .bool false, .bool false] 93)
                  have hbK := hG.size
                  have hne := Nat.ne_of_lt (lt_of_some hz)
                  have hz := ((Gr.refl q40).alloc (.cells #[.slice none 0 0, .string ⟨#[]⟩, .int .u16 V8, .int .u16 0, .int .u16 0, .int .u16 V10, .int .u16 0, .int .u16 V16, .string ⟨#[]⟩, .bool false, .int .u8 A0, .int .u8 A1, .int .u32 V12, .int .u32 V14, .bool false, .bool false, .bool false, .bool false] 93)).heap hz
                  have hG := hG.alloc (.cells #[.slice none 0 0, .string ⟨#[]⟩, .int .u16 V8, .int .u16 0, .int .u16 0, .int .u16 V10, .int .u16 0, .int .u16 V16, .string ⟨#[]⟩, .bool false, .int .u8 A0, .int .u8 A1, .int .u32 V12, .int .u32 V14, .bool false, .bool false, .bool false, .bool false] 93)
                  go_simp
                  generalize q40.heap.size = K at *
                  generalize hcc : q40.alloc (.cells #[.slice none 0 0, .string ⟨#[]⟩, .int .u16 V8, .int .u16 0, .int .u16 0, .int .u16 V10, .int .u16 0, .int .u16 V16, .string ⟨#[]⟩, .bool false, .int .u8 A0, .int .u8 A1, .int .u32 V12, .int .u32 V14, .bool false, .bool false, .bool false, .bool false] 93) = q41 at *
                  clear hcc
                  refine hK.out _ _ ⟨hG.cell k4, hG.cell k5, hG.cell k22, hG.cell k23⟩ (fun hHeld => ?_)
                  clear hK K'
                  try simp only [List.setIfInBounds_toArray, List.set_cons_zero, List.set_cons_succ]
                  refine wpAnyH_ready (rs := [34]) (by kernel_rfl) (by simp) ?_
                  refine AllReadyH.cons (o := { dst := some 74, op := Op.call { callee := Callee.value (Operand.func 54), args := #[Operand.tmp 71, Operand.tmp 73], argTypes := #[109, 30] }, type := 22, pos := "accept_packet.go:65", after := #[{ on := 31, ground := Ground.data }, { on := 33, ground := Ground.data }, { on := 27, ground := Ground.chain }], guard := none }) rfl (fun K' hK => ?_) ?_
                  ·
                    go_simp
                    go_at_call 54; go_must (refine (U20 _ (H.out.gr hG)).out.mono ?_); rintro e q42 ⟨rfl, hg⟩
                    have hG := hG.trans hg
                    have hz := hg.heap hz
                    have hk := hg.heap hk
                    go_wp2_with fail
                    clear hg
                    refine hK.out _ _ ⟨hG.cell k4, hG.cell k5, hG.cell k22, hG.cell k23⟩ (fun hHeld => ?_)
                    clear hK K'
                    try simp only [List.setIfInBounds_toArray, List.set_cons_zero, List.set_cons_succ]
                    refine wpAnyH_ready (rs := [37]) (by kernel_rfl) (by simp) ?_
                    refine AllReadyH.cons (o := { dst := some 77, op := Op.call { callee := Callee.value (Operand.func 54), args := #[Operand.tmp 75, Operand.tmp 76], argTypes := #[109, 30] }, type := 22, pos := "accept_packet.go:66", after := #[{ on := 35, ground := Ground.data }, { on := 36, ground := Ground.data }, { on := 34, ground := Ground.chain }], guard := none }) rfl (fun K' hK => ?_) ?_
                    ·
                      go_simp
                      go_at_call 54; go_must (refine (U0 _ (H.out.gr hG)).out.mono ?_); rintro e q43 ⟨rfl, hg⟩
                      have hG := hG.trans hg
                      have hz := hg.heap hz
                      have hk := hg.heap hk
                      go_wp2_with fail
                      clear hg
                      refine hK.out _ _ ⟨hG.cell k4, hG.cell k5, hG.cell k22, hG.cell k23⟩ (fun hHeld => ?_)
                      clear hK K'
                      try simp only [List.setIfInBounds_toArray, List.set_cons_zero, List.set_cons_succ]
                      refine wpAnyH_take (i := 38) (oi := { dst := some 78, op := Op.convert 22 23 (Operand.tmp 77), type := 23, pos := "accept_packet.go:45", after := #[{ on := 37, ground := Ground.data }], guard := none }) (v := ?_) rfl (by kernel_rfl) (by kernel_rfl) (by kernel_rfl) (fun _ _ _ h => h) (Or.inl ⟨by rfl, ?_⟩) (by assumption) ?_
                      rotate_left
                      · (intro w hSw; (try dsimp only at hSw); go_simp; try with_reducible rfl)
                      try simp only [Act.put, List.setIfInBounds_toArray, List.set_cons_zero, List.set_cons_succ]
                      refine wpAnyH_take (i := 45) (oi := { dst := some 85, op := Op.build 69 #[(4, Operand.tmp 70), (0, Operand.tmp 74), (1, Operand.tmp 78), (2, Operand.tmp 81), (3, Operand.tmp 84)], type := 69, pos := "accept_packet.go:45", after := #[{ on := 30, ground := Ground.data }, { on := 34, ground := Ground.data }, { on := 38, ground := Ground.data }, { on := 41, ground := Ground.data }, { on := 44, ground := Ground.data }], guard := none }) (v := ?_) rfl (by kernel_rfl) (by kernel_rfl) (by kernel_rfl) (fun _ _ _ h => h) (Or.inl ⟨by rfl, ?_⟩) (by assumption) ?_
                      rotate_left
                      · (intro w hSw; (try dsimp only at hSw); go_simp; try with_reducible rfl)
                      try simp only [Act.put, List.setIfInBounds_toArray, List.set_cons_zero, List.set_cons_succ]
                      refine wpAnyH_take (i := 46) (oi := { dst := some 86, op := Op.build 91 #[(0, Operand.tmp 85)], type := 91, pos := "accept_packet.go:45", after := #[{ on := 45, ground := Ground.data }], guard := none }) (v := ?_) rfl (by kernel_rfl) (by kernel_rfl) (by kernel_rfl) (fun _ _ _ h => h) (Or.inl ⟨by rfl, ?_⟩) (by assumption) ?_
                      rotate_left
                      · (intro w hSw; (try dsimp only at hSw); go_simp; try with_reducible rfl)
                      try simp only [Act.put, List.setIfInBounds_toArray, List.set_cons_zero, List.set_cons_succ]
                      refine wpAnyH_ready (rs := [48]) (by kernel_rfl) (by simp) ?_
                      refine AllReadyH.cons (o := accStore) rfl (fun K' hK => ?_) ?_
                      ·
                        dsimp only [accStore]
                        obtain ⟨z0, z1, z2, z3, z4, z5, y0, y1, y2, y3, y4, y5⟩ := acc_cells hz
                        have HF := Lib.hid (acc_store (D : Nat) V0 TY FL hz hk (by omega) hbJ hbK hG)
                        have hG := HF.out.1
                        go_simp
                        refine hK.out _ _ ⟨hG.cell k4, hG.cell k5, hG.cell k22, hG.cell k23⟩ (fun hHeld => ?_)
                        clear hK K'
                        try simp only [List.setIfInBounds_toArray, List.set_cons_zero, List.set_cons_succ]
                        refine wpAnyH_done (by kernel_rfl) ?_ _
                        go_wp2_with fail
                        go_meet
                        exact HF.out.2
                      exact AllReadyH.nil
                    exact AllReadyH.nil
                  exact AllReadyH.nil
                refine AllReadyH.cons (o := { dst := some 74, op := Op.call { callee := Callee.value (Operand.func 54), args := #[Operand.tmp 71, Operand.tmp 73], argTypes := #[109, 30] }, type := 22, pos := "accept_packet.go:65", after := #[{ on := 31, ground := Ground.data }, { on := 33, ground := Ground.data }, { on := 27, ground := Ground.chain }], guard := none }) rfl (fun K' hK => ?_) ?_
                ·
                  go_simp
                  go_at_call 54; go_must (refine (U20 _ (H.out.gr hG)).out.mono ?_); rintro e q45 ⟨rfl, hg⟩
                  have hG := hG.trans hg
                  have hz := hg.heap hz
                  go_wp2_with fail
                  clear hg
                  refine hK.out _ _ ⟨hG.cell k4, hG.cell k5, hG.cell k22, hG.cell k23⟩ (fun hHeld => ?_)
                  clear hK K'
                  try simp only [List.setIfInBounds_toArray, List.set_cons_zero, List.set_cons_succ]
                  refine wpAnyH_ready (rs := [30, 37]) (by kernel_rfl) (by simp) ?_
                  refine AllReadyH.cons (o := { dst := some 70, op := Op.box 93 (Operand.tmp 69), type := 58, pos := "accept_packet.go:45", after := #[{ on := 29, ground := Ground.data }], guard := none }) rfl (fun K' hK => ?_) ?_
                  ·
                    have hk := heap_alloc_new q45 (.cells #[.slice none 0 0, .string ⟨#[]⟩, .int .u16 V8, .int .u16 0, .int .u16 0, .int .u16 V10, .int .u16 0, .int .u16 V16, .string ⟨#[]⟩, .bool false, .int .u8 A0, .int .u8 A1, .int .u32 V12, .int .u32 V14, .bool false, .bool false, .bool false, .bool false] 93)
                    have hbK := hG.size
                    have hne := Nat.ne_of_lt (lt_of_some hz)
                    have hz := ((Gr.refl q45).alloc (.cells #[.slice none 0 0, .string ⟨#[]⟩, .int .u16 V8, .int .u16 0, .int .u16 0, .int .u16 V10, .int .u16 0, .int .u16 V16, .string ⟨#[]⟩, .bool false, .int .u8 A0, .int .u8 A1, .int .u32 V12, .int .u32 V14, .bool false, .bool false, .bool false, .bool false] 93)).heap hz
                    have hG := hG.alloc (.cells #[.slice none 0 0, .string ⟨#[]⟩, .int .u16 V8, .int .u16 0, .int .u16 0, .int .u16 V10, .int .u16 0, .int .u16 V16, .string ⟨#[]⟩, .bool false, .int .u8 A0, .int .u8 A1, .int .u32 V12, .int .u32 V14, .bool false, .bool false, .bool false, .bool false] 93)
                    go_simp
                    generalize q45.heap.size = K at *
                    generalize hcc : q45.alloc (.cells #[.slice none 0 0, .string ⟨#[]⟩, .int .u16 V8, .int .u16 0, .int .u16 0, .int .u16 V10, .int .u16 0, .int .u16 V16, .string ⟨#[]⟩, .bool false, .int .u8 A0, .int .u8 A1, .int .u32 V12, .int .u32 V14, .bool false, .bool false, .bool false, .bool false] 93) = q46 at *
                    clear hcc
                    refine hK.out _ _ ⟨hG.cell k4, hG.cell k5, hG.cell k22, hG.cell k23⟩ (fun hHeld => ?_)
                    clear hK K'
                    try simp only [List.setIfInBounds_toArray, List.set_cons_zero, List.set_cons_succ]
                    refine wpAnyH_ready (rs := [37]) (by kernel_rfl) (by simp) ?_
                    refine AllReadyH.cons (o := { dst := some 77, op := Op.call { callee := Callee.value (Operand.func 54), args := #[Operand.tmp 75, Operand.tmp 76], argTypes := #[109, 30] }, type := 22, pos := "accept_packet.go:66", after := #[{ on := 35, ground := Ground.data }, { on := 36, ground := Ground.data }, { on := 34, ground := Ground.chain }], guard := none }) rfl (fun K' hK => ?_) ?_
                    ·
                      go_simp
                      go_at_call 54; go_must (refine (U0 _ (H.out.gr hG)).out.mono ?_); rintro e q47 ⟨rfl, hg⟩
                      have hG := hG.trans hg
                      have hz := hg.heap hz
                      have hk := hg.heap hk
                      go_wp2_with fail
                      clear hg
                      refine hK.out _ _ ⟨hG.cell k4, hG.cell k5, hG.cell k22, hG.cell k23⟩ (fun hHeld => ?_)
                      clear hK K'
                      try simp only [List.setIfInBounds_toArray, List.set_cons_zero, List.set_cons_succ]
                      refine wpAnyH_take (i := 38) (oi := { dst := some 78, op := Op.convert 22 23 (Operand.tmp 77), type := 23, pos := "accept_packet.go:45", after := #[{ on := 37, ground := Ground.data }], guard := none }) (v := ?_) rfl (by kernel_rfl) (by kernel_rfl) (by kernel_rfl) (fun _ _ _ h => h) (Or.inl ⟨by rfl, ?_⟩) (by assumption) ?_
                      rotate_left
                      · (intro w hSw; (try dsimp only at hSw); go_simp; try with_reducible rfl)
                      try simp only [Act.put, List.setIfInBounds_toArray, List.set_cons_zero, List.set_cons_succ]
                      refine wpAnyH_take (i := 45) (oi := { dst := some 85, op := Op.build 69 #[(4, Operand.tmp 70), (0, Operand.tmp 74), (1, Operand.tmp 78), (2, Operand.tmp 81), (3, Operand.tmp 84)], type := 69, pos := "accept_packet.go:45", after := #[{ on := 30, ground := Ground.data }, { on := 34, ground := Ground.data }, { on := 38, ground := Ground.data }, { on := 41, ground := Ground.data }, { on := 44, ground := Ground.data }], guard := none }) (v := ?_) rfl (by kernel_rfl) (by kernel_rfl) (by kernel_rfl) (fun _ _ _ h => h) (Or.inl ⟨by rfl, ?_⟩) (by assumption) ?_
                      rotate_left
                      · (intro w hSw; (try dsimp only at hSw); go_simp; try with_reducible rfl)
                      try simp only [Act.put, List.setIfInBounds_toArray, List.set_cons_zero, List.set_cons_succ]
                      refine wpAnyH_take (i := 46) (oi := { dst := some 86, op := Op.build 91 #[(0, Operand.tmp 85)], type := 91, pos := "accept_packet.go:45", after := #[{ on := 45, ground := Ground.data }], guard := none }) (v := ?_) rfl (by kernel_rfl) (by kernel_rfl) (by kernel_rfl) (fun _ _ _ h => h) (Or.inl ⟨by rfl, ?_⟩) (by assumption) ?_
                      rotate_left
                      · (intro w hSw; (try dsimp only at hSw); go_simp; try with_reducible rfl)
                      try simp only [Act.put, List.setIfInBounds_toArray, List.set_cons_zero, List.set_cons_succ]
                      refine wpAnyH_ready (rs := [48]) (by kernel_rfl) (by simp) ?_
                      refine AllReadyH.cons (o := accStore) rfl (fun K' hK => ?_) ?_
                      ·
                        dsimp only [accStore]
                        obtain ⟨z0, z1, z2, z3, z4, z5, y0, y1, y2, y3, y4, y5⟩ := acc_cells hz
                        have HF := Lib.hid (acc_store (D : Nat) V0 TY FL hz hk (by omega) hbJ hbK hG)
                        have hG := HF.out.1
                        go_simp
                        refine hK.out _ _ ⟨hG.cell k4, hG.cell k5, hG.cell k22, hG.cell k23⟩ (fun hHeld => ?_)
                        clear hK K'
                        try simp only [List.setIfInBounds_toArray, List.set_cons_zero, List.set_cons_succ]
                        refine wpAnyH_done (by kernel_rfl) ?_ _
                        go_wp2_with fail
                        go_meet
                        exact HF.out.2
                      exact AllReadyH.nil
                    exact AllReadyH.nil
                  refine AllReadyH.cons (o := { dst := some 77, op := Op.call { callee := Callee.value (Operand.func 54), args := #[Operand.tmp 75, Operand.tmp 76], argTypes := #[109, 30] }, type := 22, pos := "accept_packet.go:66", after := #[{ on := 35, ground := Ground.data }, { on := 36, ground := Ground.data }, { on := 34, ground := Ground.chain }], guard := none }) rfl (fun K' hK => ?_) ?_
                  ·
                    go_simp
                    go_at_call 54; go_must (refine (U0 _ (H.out.gr hG)).out.mono ?_); rintro e q49 ⟨rfl, hg⟩
                    have hG := hG.trans hg
                    have hz := hg.heap hz
                    go_wp2_with fail
                    clear hg
                    refine hK.out _ _ ⟨hG.cell k4, hG.cell k5, hG.cell k22, hG.cell k23⟩ (fun hHeld => ?_)
                    clear hK K'
                    try simp only [List.setIfInBounds_toArray, List.set_cons_zero, List.set_cons_succ]
                    refine wpAnyH_take (i := 38) (oi := { dst := some 78, op := Op.convert 22 23 (Operand.tmp 77), type := 23, pos := "accept_packet.go:45", after := #[{ on := 37, ground := Ground.data }], guard := none }) (v := ?_) rfl (by kernel_rfl) (by kernel_rfl) (by kernel_rfl) (fun _ _ _ h => h) (Or.inl ⟨by rfl, ?_⟩) (by assumption) ?_
                    rotate_left
                    · (intro w hSw; (try dsimp only at hSw); go_simp; try with_reducible rfl)
                    try simp only [Act.put, List.setIfInBounds_toArray, List.set_cons_zero, List.set_cons_succ]
                    refine wpAnyH_ready (rs := [30]) (by kernel_rfl) (by simp) ?_
                    refine AllReadyH.cons (o := { dst := some 70, op := Op.box 93 (Operand.tmp 69), type := 58, pos := "accept_packet.go:45", after := #[{ on := 29, ground := Ground.data }], guard := none }) rfl (fun K' hK => ?_) ?_
                    ·
                      have hk := heap_alloc_new q49 (.cells #[.slice none 0 0, .string ⟨#[]⟩, .int .u16 V8, .int .u16 0, .int .u16 0, .int .u16 V10, .int .u16 0, .int .u16 V16, .string ⟨#[]⟩, .bool false, .int .u8 A0, .int .u8 A1, .int .u32 V12, .int .u32 V14, .bool false, .bool false, .bool false, .bool false] 93)
                      have hbK := hG.size
                      have hne := Nat.ne_of_lt (lt_of_some hz)
                      have hz := ((Gr.refl q49).alloc (.cells #[.slice none 0 0, .string ⟨#[]⟩, .int .u16 V8, .int .u16 0, .int .u16 0, .int .u16 V10, .int .u16 0, .int .u16 V16, .string ⟨#[]⟩, .bool false, .int .u8 A0, .int .u8 A1, .int .u32 V12, .int .u32 V14, .bool false, .bool false, .bool false, .bool false] 93)).heap hz
                      have hG := hG.alloc (.cells #[.slice none 0 0, .string ⟨#[]⟩, .int .u16 V8, .int .u16 0, .int .u16 0, .int .u16 V10, .int .u16 0, .int .u16 V16, .string ⟨#[]⟩, .bool false, .int .u8 A0, .int .u8 A1, .int .u32 V12, .int .u32 V14, .bool false, .bool false, .bool false, .bool false] 93)
                      go_simp
                      generalize q49.heap.size = K at *
                      generalize hcc : q49.alloc (.cells #[.slice none 0 0, .string ⟨#[]⟩, .int .u16 V8, .int .u16 0, .int .u16 0, .int .u16 V10, .int .u16 0, .int .u16 V16, .string ⟨#[]⟩, .bool false, .int .u8 A0, .int .u8 A1, .int .u32 V12, .int .u32 V14, .bool false, .bool false, .bool false, .bool false] 93) = q50 at *
                      clear hcc
                      refine hK.out _ _ ⟨hG.cell k4, hG.cell k5, hG.cell k22, hG.cell k23⟩ (fun hHeld => ?_)
                      clear hK K'
                      try simp only [List.setIfInBounds_toArray, List.set_cons_zero, List.set_cons_succ]
                      refine wpAnyH_take (i := 45) (oi := { dst := some 85, op := Op.build 69 #[(4, Operand.tmp 70), (0, Operand.tmp 74), (1, Operand.tmp 78), (2, Operand.tmp 81), (3, Operand.tmp 84)], type := 69, pos := "accept_packet.go:45", after := #[{ on := 30, ground := Ground.data }, { on := 34, ground := Ground.data }, { on := 38, ground := Ground.data }, { on := 41, ground := Ground.data }, { on := 44, ground := Ground.data }], guard := none }) (v := ?_) rfl (by kernel_rfl) (by kernel_rfl) (by kernel_rfl) (fun _ _ _ h => h) (Or.inl ⟨by rfl, ?_⟩) (by assumption) ?_
                      rotate_left
                      · (intro w hSw; (try dsimp only at hSw); go_simp; try with_reducible rfl)
                      try simp only [Act.put, List.setIfInBounds_toArray, List.set_cons_zero, List.set_cons_succ]
                      refine wpAnyH_take (i := 46) (oi := { dst := some 86, op := Op.build 91 #[(0, Operand.tmp 85)], type := 91, pos := "accept_packet.go:45", after := #[{ on := 45, ground := Ground.data }], guard := none }) (v := ?_) rfl (by kernel_rfl) (by kernel_rfl) (by kernel_rfl) (fun _ _ _ h => h) (Or.inl ⟨by rfl, ?_⟩) (by assumption) ?_
                      rotate_left
                      · (intro w hSw; (try dsimp only at hSw); go_simp; try with_reducible rfl)
                      try simp only [Act.put, List.setIfInBounds_toArray, List.set_cons_zero, List.set_cons_succ]
                      refine wpAnyH_ready (rs := [48]) (by kernel_rfl) (by simp) ?_
                      refine AllReadyH.cons (o := accStore) rfl (fun K' hK => ?_) ?_
                      ·
                        dsimp only [accStore]
                        obtain ⟨z0, z1, z2, z3, z4, z5, y0, y1, y2, y3, y4, y5⟩ := acc_cells hz
                        have HF := Lib.hid (acc_store (D : Nat) V0 TY FL hz hk (by omega) hbJ hbK hG)
                        have hG := HF.out.1
                        go_simp
                        refine hK.out _ _ ⟨hG.cell k4, hG.cell k5, hG.cell k22, hG.cell k23⟩ (fun hHeld => ?_)
                        clear hK K'
                        try simp only [List.setIfInBounds_toArray, List.set_cons_zero, List.set_cons_succ]
                        refine wpAnyH_done (by kernel_rfl) ?_ _
                        go_wp2_with fail
                        go_meet
                        exact HF.out.2
                      exact AllReadyH.nil
                    exact AllReadyH.nil
                  exact AllReadyH.nil
                exact AllReadyH.nil
              exact AllReadyH.nil
            refine AllReadyH.cons (o := { dst := some 6, op := Op.alloc 91, type := 0, pos := "accept_packet.go:45", after := #[], guard := none }) rfl (fun K' hK => ?_) ?_
            ·
              have hz := heap_alloc_new q4 (.cells #[.int .u16 0, .int .u32 0, .int .u8 0, .int .u8 0, .pointer none, .slice none 0 0] 91)
              have hbJ := hG.size
              have hG := hG.alloc (.cells #[.int .u16 0, .int .u32 0, .int .u8 0, .int .u8 0, .pointer none, .slice none 0 0] 91)
              go_simp
              generalize q4.heap.size = J at *
              generalize hcc : q4.alloc (.cells #[.int .u16 0, .int .u32 0, .int .u8 0, .int .u8 0, .pointer none, .slice none 0 0] 91) = q52 at *
              clear hcc
              refine hK.out _ _ ⟨hG.cell k4, hG.cell k5, hG.cell k22, hG.cell k23⟩ (fun hHeld => ?_)
              clear hK K'
              try simp only [List.setIfInBounds_toArray, List.set_cons_zero, List.set_cons_succ]
              refine wpAnyH_ready (rs := [27]) (by kernel_rfl) (by simp) ?_
              refine AllReadyH.cons (o := { dst := some 67, op := Op.call { callee := Callee.value (Operand.func 54), args := #[Operand.tmp 64, Operand.tmp 66], argTypes := #[109, 30] }, type := 22, pos := "accept_packet.go:59", after := #[{ on := 24, ground := Ground.data }, { on := 26, ground := Ground.data }, { on := 22, ground := Ground.chain }], guard := none }) rfl (fun K' hK => ?_) ?_
              ·
                go_simp
                go_at_call 54; go_must (refine (U14 _ (H.out.gr hG)).out.mono ?_); rintro e q53 ⟨rfl, hg⟩
                have hG := hG.trans hg
                have hz := hg.heap hz
                go_wp2_with fail
                clear hg
                refine hK.out _ _ ⟨hG.cell k4, hG.cell k5, hG.cell k22, hG.cell k23⟩ (fun hHeld => ?_)
                clear hK K'
                try simp only [List.setIfInBounds_toArray, List.set_cons_zero, List.set_cons_succ]
                refine wpAnyH_take (i := 28) (oi := { dst := some 68, op := Op.convert 22 23 (Operand.tmp 67), type := 23, pos := "accept_packet.go:45", after := #[{ on := 27, ground := Ground.data }], guard := none }) (v := ?_) rfl (by kernel_rfl) (by kernel_rfl) (by kernel_rfl) (fun _ _ _ h => h) (Or.inl ⟨by rfl, ?_⟩) (by assumption) ?_
                rotate_left
                · (intro w hSw; (try dsimp only at hSw); go_simp; try with_reducible rfl)
                try simp only [Act.put, List.setIfInBounds_toArray, List.set_cons_zero, List.set_cons_succ]
                refine wpAnyH_take (i := 29) (oi := { dst := some 69, op := Op.build 93 #[(0, Operand.const (Value.slice none 0 0)), (2, Operand.tmp 43), (3, Operand.const (Value.int IntKind.u16 0)), (4, Operand.const (Value.int IntKind.u16 0)), (5, Operand.tmp 47), (6, Operand.const (Value.int IntKind.u16 0)), (7, Operand.tmp 51), (8, Operand.tmp 52), (10, Operand.tmp 55), (11, Operand.tmp 58), (12, Operand.tmp 63), (13, Operand.tmp 68), (14, Operand.const (Value.bool false)), (15, Operand.const (Value.bool false)), (16, Operand.const (Value.bool false)), (17, Operand.const (Value.bool false))], type := 93, pos := "accept_packet.go:45", after := #[{ on := 3, ground := Ground.data }, { on := 7, ground := Ground.data }, { on := 11, ground := Ground.data }, { on := 12, ground := Ground.data }, { on := 15, ground := Ground.data }, { on := 18, ground := Ground.data }, { on := 23, ground := Ground.data }, { on := 28, ground := Ground.data }], guard := none }) (v := ?_) rfl (by kernel_rfl) (by kernel_rfl) (by kernel_rfl) (fun _ _ _ h => h) (Or.inl ⟨by rfl, ?_⟩) (by assumption) ?_
                rotate_left
                · (intro w hSw; (try dsimp only at hSw); go_simp; try with_reducible rfl)
                try simp only [Act.put, List.setIfInBounds_toArray, List.set_cons_zero, List.set_cons_succ]
                refine wpAnyH_ready (rs := [30, 34]) (by kernel_rfl) (by simp) ?_
                refine AllReadyH.cons (o := { dst := some 70, op := Op.box 93 (Operand.tmp 69), type := 58, pos := "accept_packet.go:45", after := #[{ on := 29, ground := Ground.data }], guard := none }) rfl (fun K' hK => ?_) ?_
                ·
                  have hk := heap_alloc_new q53 (.cells #[.slice none 0 0, .string ⟨#[]⟩, .int .u16 V8, .int .u16 0, .int .u16 0, .int .u16 V10, .int .u16 0, .int .u16 V16, .string ⟨#[]⟩, .bool false, .int .u8 A0, .int .u8 A1, .int .u32 V12, .int .u32 V14, .bool false, .bool false, .bool false, .bool false] 93)
                  have hbK := hG.size
                  have hne := Nat.ne_of_lt (lt_of_some hz)
                  have hz := ((Gr.refl q53).alloc (.cells #[.slice none 0 0, .string ⟨#[]⟩, .int .u16 V8, .int .u16 0, .int .u16 0, .int .u16 V10, .int .u16 0, .int .u16 V16, .string ⟨#[]⟩, .bool false, .int .u8 A0, .int .u8 A1, .int .u32 V12, .int .u32 V14, .bool false, .bool false, .bool false, .bool false] 93)).heap hz
                  have hG := hG.alloc (.cells #[.slice none 0 0, .string ⟨#[]⟩, .int .u16 V8, .int .u16 0, .int .u16 0, .int .u16 V10, .int .u16 0, .int .u16 V16, .string ⟨#[]⟩, .bool false, .int .u8 A0, .int .u8 A1, .int .u32 V12, .int .u32 V14, .bool false, .bool false, .bool false, .bool false] 93)
                  go_simp
                  generalize q53.heap.size = K at *
                  generalize hcc : q53.alloc (.cells #[.slice none 0 0, .string ⟨#[]⟩, .int .u16 V8, .int .u16 0, .int .u16 0, .int .u16 V10, .int .u16 0, .int .u16 V16, .string ⟨#[]⟩, .bool false, .int .u8 A0, .int .u8 A1, .int .u32 V12, .int .u32 V14, .bool false, .bool false, .bool false, .bool false] 93) = q54 at *
                  clear hcc
                  refine hK.out _ _ ⟨hG.cell k4, hG.cell k5, hG.cell k22, hG.cell k23⟩ (fun hHeld => ?_)
                  clear hK K'
                  try simp only [List.setIfInBounds_toArray, List.set_cons_zero, List.set_cons_succ]
                  refine wpAnyH_ready (rs := [34]) (by kernel_rfl) (by simp) ?_
                  refine AllReadyH.cons (o := { dst := some 74, op := Op.call { callee := Callee.value (Operand.func 54), args := #[Operand.tmp 71, Operand.tmp 73], argTypes := #[109, 30] }, type := 22, pos := "accept_packet.go:65", after := #[{ on := 31, ground := Ground.data }, { on := 33, ground := Ground.data }, { on := 27, ground := Ground.chain }], guard := none }) rfl (fun K' hK => ?_) ?_
                  ·
                    go_simp
                    go_at_call 54; go_must (refine (U20 _ (H.out.gr hG)).out.mono ?_); rintro e q55 ⟨rfl, hg⟩
                    have hG := hG.trans hg
                    have hz := hg.heap hz
                    have hk := hg.heap hk
                    go_wp2_with fail
                    clear hg
                    refine hK.out _ _ ⟨hG.cell k4, hG.cell k5, hG.cell k22, hG.cell k23⟩ (fun hHeld => ?_)
                    clear hK K'
                    try simp only [List.setIfInBounds_toArray, List.set_cons_zero, List.set_cons_succ]
                    refine wpAnyH_ready (rs := [37]) (by kernel_rfl) (by simp) ?_
                    refine AllReadyH.cons (o := { dst := some 77, op := Op.call { callee := Callee.value (Operand.func 54), args := #[Operand.tmp 75, Operand.tmp 76], argTypes := #[109, 30] }, type := 22, pos := "accept_packet.go:66", after := #[{ on := 35, ground := Ground.data }, { on := 36, ground := Ground.data }, { on := 34, ground := Ground.chain }], guard := none }) rfl (fun K' hK => ?_) ?_
                    ·
                      go_simp
                      go_at_call 54; go_must (refine (U0 _ (H.out.gr hG)).out.mono ?_); rintro e q56 ⟨rfl, hg⟩
                      have hG := hG.trans hg
                      have hz := hg.heap hz
                      have hk := hg.heap hk
                      go_wp2_with fail
                      clear hg
                      refine hK.out _ _ ⟨hG.cell k4, hG.cell k5, hG.cell k22, hG.cell k23⟩ (fun hHeld => ?_)
                      clear hK K'
                      try simp only [List.setIfInBounds_toArray, List.set_cons_zero, List.set_cons_succ]
                      refine wpAnyH_take (i := 38) (oi := { dst := some 78, op := Op.convert 22 23 (Operand.tmp 77), type := 23, pos := "accept_packet.go:45", after := #[{ on := 37, ground := Ground.data }], guard := none }) (v := ?_) rfl (by kernel_rfl) (by kernel_rfl) (by kernel_rfl) (fun _ _ _ h => h) (Or.inl ⟨by rfl, ?_⟩) (by assumption) ?_
                      rotate_left
                      · (intro w hSw; (try dsimp only at hSw); go_simp; try with_reducible rfl)
                      try simp only [Act.put, List.setIfInBounds_toArray, List.set_cons_zero, List.set_cons_succ]
                      refine wpAnyH_take (i := 45) (oi := { dst := some 85, op := Op.build 69 #[(4, Operand.tmp 70), (0, Operand.tmp 74), (1, Operand.tmp 78), (2, Operand.tmp 81), (3, Operand.tmp 84)], type := 69, pos := "accept_packet.go:45", after := #[{ on := 30, ground := Ground.data }, { on := 34, ground := Ground.data }, { on := 38, ground := Ground.data }, { on := 41, ground := Ground.data }, { on := 44, ground := Ground.data }], guard := none }) (v := ?_) rfl (by kernel_rfl) (by kernel_rfl) (by kernel_rfl) (fun _ _ _ h => h) (Or.inl ⟨by rfl, ?_⟩) (by assumption) ?_
                      rotate_left
                      · (intro w hSw; (try dsimp only at hSw); go_simp; try with_reducible rfl)
                      try simp only [Act.put, List.setIfInBounds_toArray, List.set_cons_zero, List.set_cons_succ]
                      refine wpAnyH_take (i := 46) (oi := { dst := some 86, op := Op.build 91 #[(0, Operand.tmp 85)], type := 91, pos := "accept_packet.go:45", after := #[{ on := 45, ground := Ground.data }], guard := none }) (v := ?_) rfl (by kernel_rfl) (by kernel_rfl) (by kernel_rfl) (fun _ _ _ h => h) (Or.inl ⟨by rfl, ?_⟩) (by assumption) ?_
                      rotate_left
                      · (intro w hSw; (try dsimp only at hSw); go_simp; try with_reducible rfl)
                      try simp only [Act.put, List.setIfInBounds_toArray, List.set_cons_zero, List.set_cons_succ]
                      refine wpAnyH_ready (rs := [48]) (by kernel_rfl) (by simp) ?_
                      refine AllReadyH.cons (o := accStore) rfl (fun K' hK => ?_) ?_
                      ·
                        dsimp only [accStore]
                        obtain ⟨z0, z1, z2, z3, z4, z5, y0, y1, y2, y3, y4, y5⟩ := acc_cells hz
                        have HF := Lib.hid (acc_store (D : Nat) V0 TY FL hz hk (by omega) hbJ hbK hG)
                        have hG := HF.out.1
                        go_simp
                        refine hK.out _ _ ⟨hG.cell k4, hG.cell k5, hG.cell k22, hG.cell k23⟩ (fun hHeld => ?_)
                        clear hK K'
                        try simp only [List.setIfInBounds_toArray, List.set_cons_zero, List.set_cons_succ]
                        refine wpAnyH_done (by kernel_rfl) ?_ _
                        go_wp2_with fail
                        go_meet
                        exact HF.out.2
                      exact AllReadyH.nil
                    exact AllReadyH.nil
                  exact AllReadyH.nil
                refine AllReadyH.cons (o := { dst := some 74, op := Op.call { callee := Callee.value (Operand.func 54), args := #[Operand.tmp 71, Operand.tmp 73], argTypes := #[109, 30] }, type := 22, pos := "accept_packet.go:65", after := #[{ on := 31, ground := Ground.data }, { on := 33, ground := Ground.data }, { on := 27, ground := Ground.chain }], guard := none }) rfl (fun K' hK => ?_) ?_
                ·
                  go_simp
                  go_at_call 54; go_must (refine (U20 _ (H.out.gr hG)).out.mono ?_); rintro e q58 ⟨rfl, hg⟩
                  have hG := hG.trans hg
                  have hz := hg.heap hz
                  go_wp2_with fail
                  clear hg
                  refine hK.out _ _ ⟨hG.cell k4, hG.cell k5, hG.cell k22, hG.cell k23⟩ (fun hHeld => ?_)
                  clear hK K'
                  try simp only [List.setIfInBounds_toArray, List.set_cons_zero, List.set_cons_succ]
                  refine wpAnyH_ready (rs := [30, 37]) (by kernel_rfl) (by simp) ?_
                  refine AllReadyH.cons (o := { dst := some 70, op := Op.box 93 (Operand.tmp 69), type := 58, pos := "accept_packet.go:45", after := #[{ on := 29, ground := Ground.data }], guard := none }) rfl (fun K' hK => ?_) ?_
                  ·
                    have hk := heap_alloc_new q58 (.cells #[.slice none 0 0, .string ⟨#[]⟩, .int .u16 V8, .int .u16 0, .int .u16 0, .int .u16 V10, .int .u16 0, .int .u16 V16, .string ⟨#[]⟩, .bool false, .int .u8 A0, .int .u8 A1, .int .u32 V12, .int .u32 V14, .bool false, .bool false, .bool false, .bool false] 93)
                    have hbK := hG.size
                    have hne := Nat.ne_of_lt (lt_of_some hz)
                    have hz := ((Gr.refl q58).alloc (.cells #[.slice none 0 0, .string ⟨#[]⟩, .int .u16 V8, .int .u16 0, .int .u16 0, .int .u16 V10, .int .u16 0, .int .u16 V16, .string ⟨#[]⟩, .bool false, .int .u8 A0, .int .u8 A1, .int .u32 V12, .int .u32 V14, .bool false, .bool false, .bool false, .bool false] 93)).heap hz
                    have hG := hG.alloc (.cells #[.slice none 0 0, .string ⟨#[]⟩, .int .u16 V8, .int .u16 0, .int .u16 0, .int .u16 V10, .int .u16 0, .int .u16 V16, .string ⟨#[]⟩, .bool false, .int .u8 A0, .int .u8 A1, .int .u32 V12, .int .u32 V14, .bool false, .bool false, .bool false, .bool false] 93)
                    go_simp
                    generalize q58.heap.size = K at *
                    generalize hcc : q58.alloc (.cells #[.slice none 0 0, .string ⟨#[]⟩, .int .u16 V8, .int .u16 0, .int .u16 0, .int .u16 V10, .int .u16 0, .int .u16 V16, .string ⟨#[]⟩, .bool false, .int .u8 A0, .int .u8 A1, .int .u32 V12, .int .u32 V14, .bool false, .bool false, .bool false, .bool false] 93) = q59 at *
                    clear hcc
                    refine hK.out _ _ ⟨hG.cell k4, hG.cell k5, hG.cell k22, hG.cell k23⟩ (fun hHeld => ?_)
                    clear hK K'
                    try simp only [List.setIfInBounds_toArray, List.set_cons_zero, List.set_cons_succ]
                    refine wpAnyH_ready (rs := [37]) (by kernel_rfl) (by simp) ?_
                    refine AllReadyH.cons (o := { dst := some 77, op := Op.call { callee := Callee.value (Operand.func 54), args := #[Operand.tmp 75, Operand.tmp 76], argTypes := #[109, 30] }, type := 22, pos := "accept_packet.go:66", after := #[{ on := 35, ground := Ground.data }, { on := 36, ground := Ground.data }, { on := 34, ground := Ground.chain }], guard := none }) rfl (fun K' hK => ?_) ?_
                    ·
                      go_simp
                      go_at_call 54; go_must (refine (U0 _ (H.out.gr hG)).out.mono ?_); rintro e q60 ⟨rfl, hg⟩
                      have hG := hG.trans hg
                      have hz := hg.heap hz
                      have hk := hg.heap hk
                      go_wp2_with fail
                      clear hg
                      refine hK.out _ _ ⟨hG.cell k4, hG.cell k5, hG.cell k22, hG.cell k23⟩ (fun hHeld => ?_)
                      clear hK K'
                      try simp only [List.setIfInBounds_toArray, List.set_cons_zero, List.set_cons_succ]
                      refine wpAnyH_take (i := 38) (oi := { dst := some 78, op := Op.convert 22 23 (Operand.tmp 77), type := 23, pos := "accept_packet.go:45", after := #[{ on := 37, ground := Ground.data }], guard := none }) (v := ?_) rfl (by kernel_rfl) (by kernel_rfl) (by kernel_rfl) (fun _ _ _ h => h) (Or.inl ⟨by rfl, ?_⟩) (by assumption) ?_
                      rotate_left
                      · (intro w hSw; (try dsimp only at hSw); go_simp; try with_reducible rfl)
                      try simp only [Act.put, List.setIfInBounds_toArray, List.set_cons_zero, List.set_cons_succ]
                      refine wpAnyH_take (i := 45) (oi := { dst := some 85, op := Op.build 69 #[(4, Operand.tmp 70), (0, Operand.tmp 74), (1, Operand.tmp 78), (2, Operand.tmp 81), (3, Operand.tmp 84)], type := 69, pos := "accept_packet.go:45", after := #[{ on := 30, ground := Ground.data }, { on := 34, ground := Ground.data }, { on := 38, ground := Ground.data }, { on := 41, ground := Ground.data }, { on := 44, ground := Ground.data }], guard := none }) (v := ?_) rfl (by kernel_rfl) (by kernel_rfl) (by kernel_rfl) (fun _ _ _ h => h) (Or.inl ⟨by rfl, ?_⟩) (by assumption) ?_
                      rotate_left
                      · (intro w hSw; (try dsimp only at hSw); go_simp; try with_reducible rfl)
                      try simp only [Act.put, List.setIfInBounds_toArray, List.set_cons_zero, List.set_cons_succ]
                      refine wpAnyH_take (i := 46) (oi := { dst := some 86, op := Op.build 91 #[(0, Operand.tmp 85)], type := 91, pos := "accept_packet.go:45", after := #[{ on := 45, ground := Ground.data }], guard := none }) (v := ?_) rfl (by kernel_rfl) (by kernel_rfl) (by kernel_rfl) (fun _ _ _ h => h) (Or.inl ⟨by rfl, ?_⟩) (by assumption) ?_
                      rotate_left
                      · (intro w hSw; (try dsimp only at hSw); go_simp; try with_reducible rfl)
                      try simp only [Act.put, List.setIfInBounds_toArray, List.set_cons_zero, List.set_cons_succ]
                      refine wpAnyH_ready (rs := [48]) (by kernel_rfl) (by simp) ?_
                      refine AllReadyH.cons (o := accStore) rfl (fun K' hK => ?_) ?_
                      ·
                        dsimp only [accStore]
                        obtain ⟨z0, z1, z2, z3, z4, z5, y0, y1, y2, y3, y4, y5⟩ := acc_cells hz
                        have HF := Lib.hid (acc_store (D : Nat) V0 TY FL hz hk (by omega) hbJ hbK hG)
                        have hG := HF.out.1
                        go_simp
                        refine hK.out _ _ ⟨hG.cell k4, hG.cell k5, hG.cell k22, hG.cell k23⟩ (fun hHeld => ?_)
                        clear hK K'
                        try simp only [List.setIfInBounds_toArray, List.set_cons_zero, List.set_cons_succ]
                        refine wpAnyH_done (by kernel_rfl) ?_ _
                        go_wp2_with fail
                        go_meet
                        exact HF.out.2
                      exact AllReadyH.nil
                    exact AllReadyH.nil
                  refine AllReadyH.cons (o := { dst := some 77, op := Op.call { callee := Callee.value (Operand.func 54), args := #[Operand.tmp 75, Operand.tmp 76], argTypes := #[109, 30] }, type := 22, pos := "accept_packet.go:66", after := #[{ on := 35, ground := Ground.data }, { on := 36, ground := Ground.data }, { on := 34, ground := Ground.chain }], guard := none }) rfl (fun K' hK => ?_) ?_
                  ·
                    go_simp
                    go_at_call 54; go_must (refine (U0 _ (H.out.gr hG)).out.mono ?_); rintro e q62 ⟨rfl, hg⟩
                    have hG := hG.trans hg
                    have hz := hg.heap hz
                    go_wp2_with fail
                    clear hg
                    refine hK.out _ _ ⟨hG.cell k4, hG.cell k5, hG.cell k22, hG.cell k23⟩ (fun hHeld => ?_)
                    clear hK K'
                    try simp only [List.setIfInBounds_toArray, List.set_cons_zero, List.set_cons_succ]
                    refine wpAnyH_take (i := 38) (oi := { dst := some 78, op := Op.convert 22 23 (Operand.tmp 77), type := 23, pos := "accept_packet.go:45", after := #[{ on := 37, ground := Ground.data }], guard := none }) (v := ?_) rfl (by kernel_rfl) (by kernel_rfl) (by kernel_rfl) (fun _ _ _ h => h) (Or.inl ⟨by rfl, ?_⟩) (by assumption) ?_
                    rotate_left
                    · (intro w hSw; (try dsimp only at hSw); go_simp; try with_reducible rfl)
                    try simp only [Act.put, List.setIfInBounds_toArray, List.set_cons_zero, List.set_cons_succ]
                    refine wpAnyH_ready (rs := [30]) (by kernel_rfl) (by simp) ?_
                    refine AllReadyH.cons (o := { dst := some 70, op := Op.box 93 (Operand.tmp 69), type := 58, pos := "accept_packet.go:45", after := #[{ on := 29, ground := Ground.data }], guard := none }) rfl (fun K' hK => ?_) ?_
                    ·
                      have hk := heap_alloc_new q62 (.cells #[.slice none 0 0, .string ⟨#[]⟩, .int .u16 V8, .int .u16 0, .int .u16 0, .int .u16 V10, .int .u16 0, .int .u16 V16, .string ⟨#[]⟩, .bool false, .int .u8 A0, .int .u8 A1, .int .u32 V12, .int .u32 V14, .bool false, .bool false, .bool false, .bool false] 93)
                      have hbK := hG.size
                      have hne := Nat.ne_of_lt (lt_of_some hz)
                      have hz := ((Gr.refl q62).alloc (.cells #[.slice none 0 0, .string ⟨#[]⟩, .int .u16 V8, .int .u16 0, .int .u16 0, .int .u16 V10, .int .u16 0, .int .u16 V16, .string ⟨#[]⟩, .bool false, .int .u8 A0, .int .u8 A1, .int .u32 V12, .int .u32 V14, .bool false, .bool false, .bool false, .bool false] 93)).heap hz
                      have hG := hG.alloc (.cells #[.slice none 0 0, .string ⟨#[]⟩, .int .u16 V8, .int .u16 0, .int .u16 0, .int .u16 V10, .int .u16 0, .int .u16 V16, .string ⟨#[]⟩, .bool false, .int .u8 A0, .int .u8 A1, .int .u32 V12, .int .u32 V14, .bool false, .bool false, .bool false, .bool false] 93)
                      go_simp
                      generalize q62.heap.size = K at *
                      generalize hcc : q62.alloc (.cells #[.slice none 0 0, .string ⟨#[]⟩, .int .u16 V8, .int .u16 0, .int .u16 0, .int .u16 V10, .int .u16 0, .int .u16 V16, .string ⟨#[]⟩, .bool false, .int .u8 A0, .int .u8 A1, .int .u32 V12, .int .u32 V14, .bool false, .bool false, .bool false, .bool false] 93) = q63 at *
                      clear hcc
                      refine hK.out _ _ ⟨hG.cell k4, hG.cell k5, hG.cell k22, hG.cell k23⟩ (fun hHeld => ?_)
                      clear hK K'
                      try simp only [List.setIfInBounds_toArray, List.set_cons_zero, List.set_cons_succ]
                      refine wpAnyH_take (i := 45) (oi := { dst := some 85, op := Op.build 69 #[(4, Operand.tmp 70), (0, Operand.tmp 74), (1, Operand.tmp 78), (2, Operand.tmp 81), (3, Operand.tmp 84)], type := 69, pos := "accept_packet.go:45", after := #[{ on := 30, ground := Ground.data }, { on := 34, ground := Ground.data }, { on := 38, ground := Ground.data }, { on := 41, ground := Ground.data }, { on := 44, ground := Ground.data }], guard := none }) (v := ?_) rfl (by kernel_rfl) (by kernel_rfl) (by kernel_rfl) (fun _ _ _ h => h) (Or.inl ⟨by rfl, ?_⟩) (by assumption) ?_
                      rotate_left
                      · (intro w hSw; (try dsimp only at hSw); go_simp; try with_reducible rfl)
                      try simp only [Act.put, List.setIfInBounds_toArray, List.set_cons_zero, List.set_cons_succ]
                      refine wpAnyH_take (i := 46) (oi := { dst := some 86, op := Op.build 91 #[(0, Operand.tmp 85)], type := 91, pos := "accept_packet.go:45", after := #[{ on := 45, ground := Ground.data }], guard := none }) (v := ?_) rfl (by kernel_rfl) (by kernel_rfl) (by kernel_rfl) (fun _ _ _ h => h) (Or.inl ⟨by rfl, ?_⟩) (by assumption) ?_
                      rotate_left
                      · (intro w hSw; (try dsimp only at hSw); go_simp; try with_reducible rfl)
                      try simp only [Act.put, List.setIfInBounds_toArray, List.set_cons_zero, List.set_cons_succ]
                      refine wpAnyH_ready (rs := [48]) (by kernel_rfl) (by simp) ?_
                      refine AllReadyH.cons (o := accStore) rfl (fun K' hK => ?_) ?_
                      ·
                        dsimp only [accStore]
                        obtain ⟨z0, z1, z2, z3, z4, z5, y0, y1, y2, y3, y4, y5⟩ := acc_cells hz
                        have HF := Lib.hid (acc_store (D : Nat) V0 TY FL hz hk (by omega) hbJ hbK hG)
                        have hG := HF.out.1
                        go_simp
                        refine hK.out _ _ ⟨hG.cell k4, hG.cell k5, hG.cell k22, hG.cell k23⟩ (fun hHeld => ?_)
                        clear hK K'
                        try simp only [List.setIfInBounds_toArray, List.set_cons_zero, List.set_cons_succ]
                        refine wpAnyH_done (by kernel_rfl) ?_ _
                        go_wp2_with fail
                        go_meet
                        exact HF.out.2
                      exact AllReadyH.nil
                    exact AllReadyH.nil
                  exact AllReadyH.nil
                exact AllReadyH.nil
              exact AllReadyH.nil
            exact AllReadyH.nil
          refine AllReadyH.cons (o := { dst := some 6, op := Op.alloc 91, type := 0, pos := "accept_packet.go:45", after := #[], guard := none }) rfl (fun K' hK => ?_) ?_
          ·
            have hz := heap_alloc_new q3 (.cells #[.int .u16 0, .int .u32 0, .int .u8 0, .int .u8 0, .pointer none, .slice none 0 0] 91)
            have hbJ := hG.size
            have hG := hG.alloc (.cells #[.int .u16 0, .int .u32 0, .int .u8 0, .int .u8 0, .pointer none, .slice none 0 0] 91)
            go_simp
            generalize q3.heap.size = J at *
            generalize hcc : q3.alloc (.cells #[.int .u16 0, .int .u32 0, .int .u8 0, .int .u8 0, .pointer none, .slice none 0 0] 91) = q65 at *
            clear hcc
            refine hK.out _ _ ⟨hG.cell k4, hG.cell k5, hG.cell k22, hG.cell k23⟩ (fun hHeld => ?_)
            clear hK K'
            try simp only [List.setIfInBounds_toArray, List.set_cons_zero, List.set_cons_succ]
            refine wpAnyH_ready (rs := [22]) (by kernel_rfl) (by simp) ?_
            refine AllReadyH.cons (o := { dst := some 62, op := Op.call { callee := Callee.value (Operand.func 54), args := #[Operand.tmp 59, Operand.tmp 61], argTypes := #[109, 30] }, type := 22, pos := "accept_packet.go:58", after := #[{ on := 19, ground := Ground.data }, { on := 21, ground := Ground.data }, { on := 11, ground := Ground.chain }], guard := none }) rfl (fun K' hK => ?_) ?_
            ·
              go_simp
              go_at_call 54; go_must (refine (U12 _ (H.out.gr hG)).out.mono ?_); rintro e q66 ⟨rfl, hg⟩
              have hG := hG.trans hg
              have hz := hg.heap hz
              go_wp2_with fail
              clear hg
              refine hK.out _ _ ⟨hG.cell k4, hG.cell k5, hG.cell k22, hG.cell k23⟩ (fun hHeld => ?_)
              clear hK K'
              try simp only [List.setIfInBounds_toArray, List.set_cons_zero, List.set_cons_succ]
              refine wpAnyH_take (i := 23) (oi := { dst := some 63, op := Op.convert 22 23 (Operand.tmp 62), type := 23, pos := "accept_packet.go:45", after := #[{ on := 22, ground := Ground.data }], guard := none }) (v := ?_) rfl (by kernel_rfl) (by kernel_rfl) (by kernel_rfl) (fun _ _ _ h => h) (Or.inl ⟨by rfl, ?_⟩) (by assumption) ?_
              rotate_left
              · (intro w hSw; (try dsimp only at hSw); go_simp; try with_reducible rfl)
              try simp only [Act.put, List.setIfInBounds_toArray, List.set_cons_zero, List.set_cons_succ]
              refine wpAnyH_ready (rs := [27]) (by kernel_rfl) (by simp) ?_
              refine AllReadyH.cons (o := { dst := some 67, op := Op.call { callee := Callee.value (Operand.func 54), args := #[Operand.tmp 64, Operand.tmp 66], argTypes := #[109, 30] }, type := 22, pos := "accept_packet.go:59", after := #[{ on := 24, ground := Ground.data }, { on := 26, ground := Ground.data }, { on := 22, ground := Ground.chain }], guard := none }) rfl (fun K' hK => ?_) ?_
              ·
                go_simp
                go_at_call 54; go_must (refine (U14 _ (H.out.gr hG)).out.mono ?_); rintro e q67 ⟨rfl, hg⟩
                have hG := hG.trans hg
                have hz := hg.heap hz
                go_wp2_with fail
                clear hg
                refine hK.out _ _ ⟨hG.cell k4, hG.cell k5, hG.cell k22, hG.cell k23⟩ (fun hHeld => ?_)
                clear hK K'
                try simp only [List.setIfInBounds_toArray, List.set_cons_zero, List.set_cons_succ]
                refine wpAnyH_take (i := 28) (oi := { dst := some 68, op := Op.convert 22 23 (Operand.tmp 67), type := 23, pos := "accept_packet.go:45", after := #[{ on := 27, ground := Ground.data }], guard := none }) (v := ?_) rfl (by kernel_rfl) (by kernel_rfl) (by kernel_rfl) (fun _ _ _ h => h) (Or.inl ⟨by rfl, ?_⟩) (by assumption) ?_
                rotate_left
                · (intro w hSw; (try dsimp only at hSw); go_simp; try with_reducible rfl)
                try simp only [Act.put, List.setIfInBounds_toArray, List.set_cons_zero, List.set_cons_succ]
                refine wpAnyH_take (i := 29) (oi := { dst := some 69, op := Op.build 93 #[(0, Operand.const (Value.slice none 0 0)), (2, Operand.tmp 43), (3, Operand.const (Value.int IntKind.u16 0)), (4, Operand.const (Value.int IntKind.u16 0)), (5, Operand.tmp 47), (6, Operand.const (Value.int IntKind.u16 0)), (7, Operand.tmp 51), (8, Operand.tmp 52), (10, Operand.tmp 55), (11, Operand.tmp 58), (12, Operand.tmp 63), (13, Operand.tmp 68), (14, Operand.const (Value.bool false)), (15, Operand.const (Value.bool false)), (16, Operand.const (Value.bool false)), (17, Operand.const (Value.bool false))], type := 93, pos := "accept_packet.go:45", after := #[{ on := 3, ground := Ground.data }, { on := 7, ground := Ground.data }, { on := 11, ground := Ground.data }, { on := 12, ground := Ground.data }, { on := 15, ground := Ground.data }, { on := 18, ground := Ground.data }, { on := 23, ground := Ground.data }, { on := 28, ground := Ground.data }], guard := none }) (v := ?_) rfl (by kernel_rfl) (by kernel_rfl) (by kernel_rfl) (fun _ _ _ h => h) (Or.inl ⟨by rfl, ?_⟩) (by assumption) ?_
                rotate_left
                · (intro w hSw; (try dsimp only at hSw); go_simp; try with_reducible rfl)
                try simp only [Act.put, List.setIfInBounds_toArray, List.set_cons_zero, List.set_cons_succ]
                refine wpAnyH_ready (rs := [30, 34]) (by kernel_rfl) (by simp) ?_
                refine AllReadyH.cons (o := { dst := some 70, op := Op.box 93 (Operand.tmp 69), type := 58, pos := "accept_packet.go:45", after := #[{ on := 29, ground := Ground.data }], guard := none }) rfl (fun K' hK => ?_) ?_
                ·
                  have hk := heap_alloc_new q67 (.cells #[.slice none 0 0, .string ⟨#[]⟩, .int .u16 V8, .int .u16 0, .int .u16 0, .int .u16 V10, .int .u16 0, .int .u16 V16, .string ⟨#[]⟩, .bool false, .int .u8 A0, .int .u8 A1, .int .u32 V12, .int .u32 V14, .bool false, .bool false, .bool false, .bool false] 93)
                  have hbK := hG.size
                  have hne := Nat.ne_of_lt (lt_of_some hz)
                  have hz := ((Gr.refl q67).alloc (.cells #[.slice none 0 0, .string ⟨#[]⟩, .int .u16 V8, .int .u16 0, .int .u16 0, .int .u16 V10, .int .u16 0, .int .u16 V16, .string ⟨#[]⟩, .bool false, .int .u8 A0, .int .u8 A1, .int .u32 V12, .int .u32 V14, .bool false, .bool false, .bool false, .bool false] 93)).heap hz
                  have hG := hG.alloc (.cells #[.slice none 0 0, .string ⟨#[]⟩, .int .u16 V8, .int .u16 0, .int .u16 0, .int .u16 V10, .int .u16 0, .int .u16 V16, .string ⟨#[]⟩, .bool false, .int .u8 A0, .int .u8 A1, .int .u32 V12, .int .u32 V14, .bool false, .bool false, .bool false, .bool false] 93)
                  go_simp
                  generalize q67.heap.size = K at *
                  generalize hcc : q67.alloc (.cells #[.slice none 0 0, .string ⟨#[]⟩, .int .u16 V8, .int .u16 0, .int .u16 0, .int .u16 V10, .int .u16 0, .int .u16 V16, .string ⟨#[]⟩, .bool false, .int .u8 A0, .int .u8 A1, .int .u32 V12, .int .u32 V14, .bool false, .bool false, .bool false, .bool false] 93) = q68 at *
                  clear hcc
                  refine hK.out _ _ ⟨hG.cell k4, hG.cell k5, hG.cell k22, hG.cell k23⟩ (fun hHeld => ?_)
                  clear hK K'
                  try simp only [List.setIfInBounds_toArray, List.set_cons_zero, List.set_cons_succ]
                  refine wpAnyH_ready (rs := [34]) (by kernel_rfl) (by simp) ?_
                  refine AllReadyH.cons (o := { dst := some 74, op := Op.call { callee := Callee.value (Operand.func 54), args := #[Operand.tmp 71, Operand.tmp 73], argTypes := #[109, 30] }, type := 22, pos := "accept_packet.go:65", after := #[{ on := 31, ground := Ground.data }, { on := 33, ground := Ground.data }, { on := 27, ground := Ground.chain }], guard := none }) rfl (fun K' hK => ?_) ?_
                  ·
                    go_simp
                    go_at_call 54; go_must (refine (U20 _ (H.out.gr hG)).out.mono ?_); rintro e q69 ⟨rfl, hg⟩
                    have hG := hG.trans hg
                    have hz := hg.heap hz
                    have hk := hg.heap hk
                    go_wp2_with fail
                    clear hg
                    refine hK.out _ _ ⟨hG.cell k4, hG.cell k5, hG.cell k22, hG.cell k23⟩ (fun hHeld => ?_)
                    clear hK K'
                    try simp only [List.setIfInBounds_toArray, List.set_cons_zero, List.set_cons_succ]
                    refine wpAnyH_ready (rs := [37]) (by kernel_rfl) (by simp) ?_
                    refine AllReadyH.cons (o := { dst := some 77, op := Op.call { callee := Callee.value (Operand.func 54), args := #[Operand.tmp 75, Operand.tmp 76], argTypes := #[109, 30] }, type := 22, pos := "accept_packet.go:66", after := #[{ on := 35, ground := Ground.data }, { on := 36, ground := Ground.data }, { on := 34, ground := Ground.chain }], guard := none }) rfl (fun K' hK => ?_) ?_
                    ·
                      go_simp
                      go_at_call 54; go_must (refine (U0 _ (H.out.gr hG)).out.mono ?_); rintro e q70 ⟨rfl, hg⟩
                      have hG := hG.trans hg
                      have hz := hg.heap hz
                      have hk := hg.heap hk
                      go_wp2_with fail
                      clear hg
                      refine hK.out _ _ ⟨hG.cell k4, hG.cell k5, hG.cell k22, hG.cell k23⟩ (fun hHeld => ?_)
                      clear hK K'
                      try simp only [List.setIfInBounds_toArray, List.set_cons_zero, List.set_cons_succ]
                      refine wpAnyH_take (i := 38) (oi := { dst := some 78, op := Op.convert 22 23 (Operand.tmp 77), type := 23, pos := "accept_packet.go:45", after := #[{ on := 37, ground := Ground.data }], guard := none }) (v := ?_) rfl (by kernel_rfl) (by kernel_rfl) (by kernel_rfl) (fun _ _ _ h => h) (Or.inl ⟨by rfl, ?_⟩) (by assumption) ?_
                      rotate_left
                      · (intro w hSw; (try dsimp only at hSw); go_simp; try with_reducible rfl)
                      try simp only [Act.put, List.setIfInBounds_toArray, List.set_cons_zero, List.set_cons_succ]
                      refine wpAnyH_take (i := 45) (oi := { dst := some 85, op := Op.build 69 #[(4, Operand.tmp 70), (0, Operand.tmp 74), (1, Operand.tmp 78), (2, Operand.tmp 81), (3, Operand.tmp 84)], type := 69, pos := "accept_packet.go:45", after := #[{ on := 30, ground := Ground.data }, { on := 34, ground := Ground.data }, { on := 38, ground := Ground.data }, { on := 41, ground := Ground.data }, { on := 44, ground := Ground.data }], guard := none }) (v := ?_) rfl (by kernel_rfl) (by kernel_rfl) (by kernel_rfl) (fun _ _ _ h => h) (Or.inl ⟨by rfl, ?_⟩) (by assumption) ?_
                      rotate_left
                      · (intro w hSw; (try dsimp only at hSw); go_simp; try with_reducible rfl)
                      try simp only [Act.put, List.setIfInBounds_toArray, List.set_cons_zero, List.set_cons_succ]
                      refine wpAnyH_take (i := 46) (oi := { dst := some 86, op := Op.build 91 #[(0, Operand.tmp 85)], type := 91, pos := "accept_packet.go:45", after := #[{ on := 45, ground := Ground.data }], guard := none }) (v := ?_) rfl (by kernel_rfl) (by kernel_rfl) (by kernel_rfl) (fun _ _ _ h => h) (Or.inl ⟨by rfl, ?_⟩) (by assumption) ?_
                      rotate_left
                      · (intro w hSw; (try dsimp only at hSw); go_simp; try with_reducible rfl)
                      try simp only [Act.put, List.setIfInBounds_toArray, List.set_cons_zero, List.set_cons_succ]
                      refine wpAnyH_ready (rs := [48]) (by kernel_rfl) (by simp) ?_
                      refine AllReadyH.cons (o := accStore) rfl (fun K' hK => ?_) ?_
                      ·
                        dsimp only [accStore]
                        obtain ⟨z0, z1, z2, z3, z4, z5, y0, y1, y2, y3, y4, y5⟩ := acc_cells hz
                        have HF := Lib.hid (acc_store (D : Nat) V0 TY FL hz hk (by omega) hbJ hbK hG)
                        have hG := HF.out.1
                        go_simp
                        refine hK.out _ _ ⟨hG.cell k4, hG.cell k5, hG.cell k22, hG.cell k23⟩ (fun hHeld => ?_)
                        clear hK K'
                        try simp only [List.setIfInBounds_toArray, List.set_cons_zero, List.set_cons_succ]
                        refine wpAnyH_done (by kernel_rfl) ?_ _
                        go_wp2_with fail
                        go_meet
                        exact HF.out.2
                      exact AllReadyH.nil
                    exact AllReadyH.nil
                  exact AllReadyH.nil
                refine AllReadyH.cons (o := { dst := some 74, op := Op.call { callee := Callee.value (Operand.func 54), args := #[Operand.tmp 71, Operand.tmp 73], argTypes := #[109, 30] }, type := 22, pos := "accept_packet.go:65", after := #[{ on := 31, ground := Ground.data }, { on := 33, ground := Ground.data }, { on := 27, ground := Ground.chain }], guard := none }) rfl (fun K' hK => ?_) ?_
                ·
                  go_simp
                  go_at_call 54; go_must (refine (U20 _ (H.out.gr hG)).out.mono ?_); rintro e q72 ⟨rfl, hg⟩
                  have hG := hG.trans hg
                  have hz := hg.heap hz
                  go_wp2_with fail
                  clear hg
                  refine hK.out _ _ ⟨hG.cell k4, hG.cell k5, hG.cell k22, hG.cell k23⟩ (fun hHeld => ?_)
                  clear hK K'
                  try simp only [List.setIfInBounds_toArray, List.set_cons_zero, List.set_cons_succ]
                  refine wpAnyH_ready (rs := [30, 37]) (by kernel_rfl) (by simp) ?_
                  refine AllReadyH.cons (o := { dst := some 70, op := Op.box 93 (Operand.tmp 69), type := 58, pos := "accept_packet.go:45", after := #[{ on := 29, ground := Ground.data }], guard := none }) rfl (fun K' hK => ?_) ?_
                  ·
                    have hk := heap_alloc_new q72 (.cells #[.slice none 0 0, .string ⟨#[]⟩, .int .u16 V8, .int .u16 0, .int .u16 0, .int .u16 V10, .int .u16 0, .int .u16 V16, .string ⟨#[]⟩, .bool false, .int .u8 A0, .int .u8 A1, .int .u32 V12, .int .u32 V14, .bool false, .bool false, .bool false, .bool false] 93)
                    have hbK := hG.size
                    have hne := Nat.ne_of_lt (lt_of_some hz)
                    have hz := ((Gr.refl q72).alloc (.cells #[.slice none 0 0, .string ⟨#[]⟩, .int .u16 V8, .int .u16 0, .int .u16 0, .int .u16 V10, .int .u16 0, .int .u16 V16, .string ⟨#[]⟩, .bool false, .int .u8 A0, .int .u8 A1, .int .u32 V12, .int .u32 V14, .bool false, .bool false, .bool false, .bool false] 93)).heap hz
                    have hG := hG.alloc (.cells #[.slice none 0 0, .string ⟨#[]⟩, .int .u16 V8, .int .u16 0, .int .u16 0, .int .u16 V10, .int .u16 0, .int .u16 V16, .string ⟨#[]⟩, .bool false, .int .u8 A0, .int .u8 A1, .int .u32 V12, .int .u32 V14, .bool false, .bool false, .bool false, .bool false] 93)
                    go_simp
                    generalize q72.heap.size = K at *
                    generalize hcc : q72.alloc (.cells #[.slice none 0 0, .string ⟨#[]⟩, .int .u16 V8, .int .u16 0, .int .u16 0, .int .u16 V10, .int .u16 0, .int .u16 V16, .string ⟨#[]⟩, .bool false, .int .u8 A0, .int .u8 A1, .int .u32 V12, .int .u32 V14, .bool false, .bool false, .bool false, .bool false] 93) = q73 at *
                    clear hcc
                    refine hK.out _ _ ⟨hG.cell k4, hG.cell k5, hG.cell k22, hG.cell k23⟩ (fun hHeld => ?_)
                    clear hK K'
                    try simp only [List.setIfInBounds_toArray, List.set_cons_zero, List.set_cons_succ]
                    refine wpAnyH_ready (rs := [37]) (by kernel_rfl) (by simp) ?_
                    refine AllReadyH.cons (o := { dst := some 77, op := Op.call { callee := Callee.value (Operand.func 54), args := #[Operand.tmp 75, Operand.tmp 76], argTypes := #[109, 30] }, type := 22, pos := "accept_packet.go:66", after := #[{ on := 35, ground := Ground.data }, { on := 36, ground := Ground.data }, { on := 34, ground := Ground.chain }], guard := none }) rfl (fun K' hK => ?_) ?_
                    ·
                      go_simp
                      go_at_call 54; go_must (refine (U0 _ (H.out.gr hG)).out.mono ?_); rintro e q74 ⟨rfl, hg⟩
                      have hG := hG.trans hg
                      have hz := hg.heap hz
                      have hk := hg.heap hk
                      go_wp2_with fail
                      clear hg
                      refine hK.out _ _ ⟨hG.cell k4, hG.cell k5, hG.cell k22, hG.cell k23⟩ (fun hHeld => ?_)
                      clear hK K'
                      try simp only [List.setIfInBounds_toArray, List.set_cons_zero, List.set_cons_succ]
                      refine wpAnyH_take (i := 38) (oi := { dst := some 78, op := Op.convert 22 23 (Operand.tmp 77), type := 23, pos := "accept_packet.go:45", after := #[{ on := 37, ground := Ground.data }], guard := none }) (v := ?_) rfl (by kernel_rfl) (by kernel_rfl) (by kernel_rfl) (fun _ _ _ h => h) (Or.inl ⟨by rfl, ?_⟩) (by assumption) ?_
                      rotate_left
                      · (intro w hSw; (try dsimp only at hSw); go_simp; try with_reducible rfl)
                      try simp only [Act.put, List.setIfInBounds_toArray, List.set_cons_zero, List.set_cons_succ]
                      refine wpAnyH_take (i := 45) (oi := { dst := some 85, op := Op.build 69 #[(4, Operand.tmp 70), (0, Operand.tmp 74), (1, Operand.tmp 78), (2, Operand.tmp 81), (3, Operand.tmp 84)], type := 69, pos := "accept_packet.go:45", after := #[{ on := 30, ground := Ground.data }, { on := 34, ground := Ground.data }, { on := 38, ground := Ground.data }, { on := 41, ground := Ground.data }, { on := 44, ground := Ground.data }], guard := none }) (v := ?_) rfl (by kernel_rfl) (by kernel_rfl) (by kernel_rfl) (fun _ _ _ h => h) (Or.inl ⟨by rfl, ?_⟩) (by assumption) ?_
                      rotate_left
                      · (intro w hSw; (try dsimp only at hSw); go_simp; try with_reducible rfl)
                      try simp only [Act.put, List.setIfInBounds_toArray, List.set_cons_zero, List.set_cons_succ]
                      refine wpAnyH_take (i := 46) (oi := { dst := some 86, op := Op.build 91 #[(0, Operand.tmp 85)], type := 91, pos := "accept_packet.go:45", after := #[{ on := 45, ground := Ground.data }], guard := none }) (v := ?_) rfl (by kernel_rfl) (by kernel_rfl) (by kernel_rfl) (fun _ _ _ h => h) (Or.inl ⟨by rfl, ?_⟩) (by assumption) ?_
                      rotate_left
                      · (intro w hSw; (try dsimp only at hSw); go_simp; try with_reducible rfl)
                      try simp only [Act.put, List.setIfInBounds_toArray, List.set_cons_zero, List.set_cons_succ]
                      refine wpAnyH_ready (rs := [48]) (by kernel_rfl) (by simp) ?_
                      refine AllReadyH.cons (o := accStore) rfl (fun K' hK => ?_) ?_
                      ·
                        dsimp only [accStore]
                        obtain ⟨z0, z1, z2, z3, z4, z5, y0, y1, y2, y3, y4, y5⟩ := acc_cells hz
                        have HF := Lib.hid (acc_store (D : Nat) V0 TY FL hz hk (by omega) hbJ hbK hG)
                        have hG := HF.out.1
                        go_simp
                        refine hK.out _ _ ⟨hG.cell k4, hG.cell k5, hG.cell k22, hG.cell k23⟩ (fun hHeld => ?_)
                        clear hK K'
                        try simp only [List.setIfInBounds_toArray, List.set_cons_zero, List.set_cons_succ]
                        refine wpAnyH_done (by kernel_rfl) ?_ _
                        go_wp2_with fail
                        go_meet
                        exact HF.out.2
                      exact AllReadyH.nil
                    exact AllReadyH.nil
                  refine AllReadyH.cons (o := { dst := some 77, op := Op.call { callee := Callee.value (Operand.func 54), args := #[Operand.tmp 75, Operand.tmp 76], argTypes := #[109, 30] }, type := 22, pos := "accept_packet.go:66", after := #[{ on := 35, ground := Ground.data }, { on := 36, ground := Ground.data }, { on := 34, ground := Ground.chain }], guard := none }) rfl (fun K' hK => ?_) ?_
                  ·
                    go_simp
                    go_at_call 54; go_must (refine (U0 _ (H.out.gr hG)).out.mono ?_); rintro e q76 ⟨rfl, hg⟩
                    have hG := hG.trans hg
                    have hz := hg.heap hz
                    go_wp2_with fail
                    clear hg
                    refine hK.out _ _ ⟨hG.cell k4, hG.cell k5, hG.cell k22, hG.cell k23⟩ (fun hHeld => ?_)
                    clear hK K'
                    try simp only [List.setIfInBounds_toArray, List.set_cons_zero, List.set_cons_succ]
                    refine wpAnyH_take (i := 38) (oi := { dst := some 78, op := Op.convert 22 23 (Operand.tmp 77), type := 23, pos := "accept_packet.go:45", after := #[{ on := 37, ground := Ground.data }], guard := none }) (v := ?_) rfl (by kernel_rfl) (by kernel_rfl) (by kernel_rfl) (fun _ _ _ h => h) (Or.inl ⟨by rfl, ?_⟩) (by assumption) ?_
                    rotate_left
                    · (intro w hSw; (try dsimp only at hSw); go_simp; try with_reducible rfl)
                    try simp only [Act.put, List.setIfInBounds_toArray, List.set_cons_zero, List.set_cons_succ]
                    refine wpAnyH_ready (rs := [30]) (by kernel_rfl) (by simp) ?_
                    refine AllReadyH.cons (o := { dst := some 70, op := Op.box 93 (Operand.tmp 69), type := 58, pos := "accept_packet.go:45", after := #[{ on := 29, ground := Ground.data }], guard := none }) rfl (fun K' hK => ?_) ?_
                    ·
                      have hk := heap_alloc_new q76 (.cells #[.slice none 0 0, .string ⟨#[]⟩, .int .u16 V8, .int .u16 0, .int .u16 0, .int .u16 V10, .int .u16 0, .int .u16 V16, .string ⟨#[]⟩, .bool false, .int .u8 A0, .int .u8 A1, .int .u32 V12, .int .u32 V14, .bool false, .bool false, .bool false, .bool false] 93)
                      have hbK := hG.size
                      have hne := Nat.ne_of_lt (lt_of_some hz)
                      have hz := ((Gr.refl q76).alloc (.cells #[.slice none 0 0, .string ⟨#[]⟩, .int .u16 V8, .int .u16 0, .int .u16 0, .int .u16 V10, .int .u16 0, .int .u16 V16, .string ⟨#[]⟩, .bool false, .int .u8 A0, .int .u8 A1, .int .u32 V12, .int .u32 V14, .bool false, .bool false, .bool false, .bool false] 93)).heap hz
                      have hG := hG.alloc (.cells #[.slice none 0 0, .string ⟨#[]⟩, .int .u16 V8, .int .u16 0, .int .u16 0, .int .u16 V10, .int .u16 0, .int .u16 V16, .string ⟨#[]⟩, .bool false, .int .u8 A0, .int .u8 A1, .int .u32 V12, .int .u32 V14, .bool false, .bool false, .bool false, .bool false] 93)
                      go_simp
                      generalize q76.heap.size = K at *
                      generalize hcc : q76.alloc (.cells #[.slice none 0 0, .string ⟨#[]⟩, .int .u16 V8, .int .u16 0, .int .u16 0, .int .u16 V10, .int .u16 0, .int .u16 V16, .string ⟨#[]⟩, .bool false, .int .u8 A0, .int .u8 A1, .int .u32 V12, .int .u32 V14, .bool false, .bool false, .bool false, .bool false] 93) = q77 at *
                      clear hcc
                      refine hK.out _ _ ⟨hG.cell k4, hG.cell k5, hG.cell k22, hG.cell k23⟩ (fun hHeld => ?_)
                      clear hK K'
                      try simp only [List.setIfInBounds_toArray, List.set_cons_zero, List.set_cons_succ]
                      refine wpAnyH_take (i := 45) (oi := { dst := some 85, op := Op.build 69 #[(4, Operand.tmp 70), (0, Operand.tmp 74), (1, Operand.tmp 78), (2, Operand.tmp 81), (3, Operand.tmp 84)], type := 69, pos := "accept_packet.go:45", after := #[{ on := 30, ground := Ground.data }, { on := 34, ground := Ground.data }, { on := 38, ground := Ground.data }, { on := 41, ground := Ground.data }, { on := 44, ground := Ground.data }], guard := none }) (v := ?_) rfl (by kernel_rfl) (by kernel_rfl) (by kernel_rfl) (fun _ _ _ h => h) (Or.inl ⟨by rfl, ?_⟩) (by assumption) ?_
                      rotate_left
                      · (intro w hSw; (try dsimp only at hSw); go_simp; try with_reducible rfl)
                      try simp only [Act.put, List.setIfInBounds_toArray, List.set_cons_zero, List.set_cons_succ]
                      refine wpAnyH_take (i := 46) (oi := { dst := some 86, op := Op.build 91 #[(0, Operand.tmp 85)], type := 91, pos := "accept_packet.go:45", after := #[{ on := 45, ground := Ground.data }], guard := none }) (v := ?_) rfl (by kernel_rfl) (by kernel_rfl) (by kernel_rfl) (fun _ _ _ h => h) (Or.inl ⟨by rfl, ?_⟩) (by assumption) ?_
                      rotate_left
                      · (intro w hSw; (try dsimp only at hSw); go_simp; try with_reducible rfl)
                      try simp only [Act.put, List.setIfInBounds_toArray, List.set_cons_zero, List.set_cons_succ]
                      refine wpAnyH_ready (rs := [48]) (by kernel_rfl) (by simp) ?_
                      refine AllReadyH.cons (o := accStore) rfl (fun K' hK => ?_) ?_
                      ·
                        dsimp only [accStore]
                        obtain ⟨z0, z1, z2, z3, z4, z5, y0, y1, y2, y3, y4, y5⟩ := acc_cells hz
                        have HF := Lib.hid (acc_store (D : Nat) V0 TY FL hz hk (by omega) hbJ hbK hG)
                        have hG := HF.out.1
                        go_simp
                        refine hK.out _ _ ⟨hG.cell k4, hG.cell k5, hG.cell k22, hG.cell k23⟩ (fun hHeld => ?_)
                        clear hK K'
                        try simp only [List.setIfInBounds_toArray, List.set_cons_zero, List.set_cons_succ]
                        refine wpAnyH_done (by kernel_rfl) ?_ _
                        go_wp2_with fail
                        go_meet
                        exact HF.out.2
                      exact AllReadyH.nil
                    exact AllReadyH.nil
                  exact AllReadyH.nil
                exact AllReadyH.nil
              exact AllReadyH.nil
            exact AllReadyH.nil
          exact AllReadyH.nil
        refine AllReadyH.cons (o := { dst := some 6, op := Op.alloc 91, type := 0, pos := "accept_packet.go:45", after := #[], guard := none }) rfl (fun K' hK => ?_) ?_
        ·
          have hz := heap_alloc_new q2 (.cells #[.int .u16 0, .int .u32 0, .int .u8 0, .int .u8 0, .pointer none, .slice none 0 0] 91)
          have hbJ := hG.size
          have hG := hG.alloc (.cells #[.int .u16 0, .int .u32 0, .int .u8 0, .int .u8 0, .pointer none, .slice none 0 0] 91)
          go_simp
          generalize q2.heap.size = J at *
          generalize hcc : q2.alloc (.cells #[.int .u16 0, .int .u32 0, .int .u8 0, .int .u8 0, .pointer none, .slice none 0 0] 91) = q79 at *
          clear hcc
          refine hK.out _ _ ⟨hG.cell k4, hG.cell k5, hG.cell k22, hG.cell k23⟩ (fun hHeld => ?_)
          clear hK K'
          try simp only [List.setIfInBounds_toArray, List.set_cons_zero, List.set_cons_succ]
          refine wpAnyH_ready (rs := [11]) (by kernel_rfl) (by simp) ?_
          refine AllReadyH.cons (o := { dst := some 51, op := Op.call { callee := Callee.value (Operand.func 54), args := #[Operand.tmp 48, Operand.tmp 50], argTypes := #[109, 30] }, type := 22, pos := "accept_packet.go:54", after := #[{ on := 8, ground := Ground.data }, { on := 10, ground := Ground.data }, { on := 7, ground := Ground.chain }], guard := none }) rfl (fun K' hK => ?_) ?_
          ·
            go_simp
            go_at_call 54; go_must (refine (U16 _ (H.out.gr hG)).out.mono ?_); rintro e q80 ⟨rfl, hg⟩
            have hG := hG.trans hg
            have hz := hg.heap hz
            go_wp2_with fail
            clear hg
            refine hK.out _ _ ⟨hG.cell k4, hG.cell k5, hG.cell k22, hG.cell k23⟩ (fun hHeld => ?_)
            clear hK K'
            try simp only [List.setIfInBounds_toArray, List.set_cons_zero, List.set_cons_succ]
            refine wpAnyH_ready (rs := [22]) (by kernel_rfl) (by simp) ?_
            refine AllReadyH.cons (o := { dst := some 62, op := Op.call { callee := Callee.value (Operand.func 54), args := #[Operand.tmp 59, Operand.tmp 61], argTypes := #[109, 30] }, type := 22, pos := "accept_packet.go:58", after := #[{ on := 19, ground := Ground.data }, { on := 21, ground := Ground.data }, { on := 11, ground := Ground.chain }], guard := none }) rfl (fun K' hK => ?_) ?_
            ·
              go_simp
              go_at_call 54; go_must (refine (U12 _ (H.out.gr hG)).out.mono ?_); rintro e q81 ⟨rfl, hg⟩
              have hG := hG.trans hg
              have hz := hg.heap hz
              go_wp2_with fail
              clear hg
              refine hK.out _ _ ⟨hG.cell k4, hG.cell k5, hG.cell k22, hG.cell k23⟩ (fun hHeld => ?_)
              clear hK K'
              try simp only [List.setIfInBounds_toArray, List.set_cons_zero, List.set_cons_succ]
              refine wpAnyH_take (i := 23) (oi := { dst := some 63, op := Op.convert 22 23 (Operand.tmp 62), type := 23, pos := "accept_packet.go:45", after := #[{ on := 22, ground := Ground.data }], guard := none }) (v := ?_) rfl (by kernel_rfl) (by kernel_rfl) (by kernel_rfl) (fun _ _ _ h => h) (Or.inl ⟨by rfl, ?_⟩) (by assumption) ?_
              rotate_left
              · (intro w hSw; (try dsimp only at hSw); go_simp; try with_reducible rfl)
              try simp only [Act.put, List.setIfInBounds_toArray, List.set_cons_zero, List.set_cons_succ]
              refine wpAnyH_ready (rs := [27]) (by kernel_rfl) (by simp) ?_
              refine AllReadyH.cons (o := { dst := some 67, op := Op.call { callee := Callee.value (Operand.func 54), args := #[Operand.tmp 64, Operand.tmp 66], argTypes := #[109, 30] }, type := 22, pos := "accept_packet.go:59", after := #[{ on := 24, ground := Ground.data }, { on := 26, ground := Ground.data }, { on := 22, ground := Ground.chain }], guard := none }) rfl (fun K' hK => ?_) ?_
              ·
                go_simp
                go_at_call 54; go_must (refine (U14 _ (H.out.gr hG)).out.mono ?_); rintro e q82 ⟨rfl, hg⟩
                have hG := hG.trans hg
                have hz := hg.heap hz
                go_wp2_with fail
                clear hg
                refine hK.out _ _ ⟨hG.cell k4, hG.cell k5, hG.cell k22, hG.cell k23⟩ (fun hHeld => ?_)
                clear hK K'
                try simp only [List.setIfInBounds_toArray, List.set_cons_zero, List.set_cons_succ]
                refine wpAnyH_take (i := 28) (oi := { dst := some 68, op := Op.convert 22 23 (Operand.tmp 67), type := 23, pos := "accept_packet.go:45", after := #[{ on := 27, ground := Ground.data }], guard := none }) (v := ?_) rfl (by kernel_rfl) (by kernel_rfl) (by kernel_rfl) (fun _ _ _ h => h) (Or.inl ⟨by rfl, ?_⟩) (by assumption) ?_
                rotate_left
                · (intro w hSw; (try dsimp only at hSw); go_simp; try with_reducible rfl)
                try simp only [Act.put, List.setIfInBounds_toArray, List.set_cons_zero, List.set_cons_succ]
                refine wpAnyH_take (i := 29) (oi := { dst := some 69, op := Op.build 93 #[(0, Operand.const (Value.slice none 0 0)), (2, Operand.tmp 43), (3, Operand.const (Value.int IntKind.u16 0)), (4, Operand.const (Value.int IntKind.u16 0)), (5, Operand.tmp 47), (6, Operand.const (Value.int IntKind.u16 0)), (7, Operand.tmp 51), (8, Operand.tmp 52), (10, Operand.tmp 55), (11, Operand.tmp 58), (12, Operand.tmp 63), (13, Operand.tmp 68), (14, Operand.const (Value.bool false)), (15, Operand.const (Value.bool false)), (16, Operand.const (Value.bool false)), (17, Operand.const (Value.bool false))], type := 93, pos := "accept_packet.go:45", after := #[{ on := 3, ground := Ground.data }, { on := 7, ground := Ground.data }, { on := 11, ground := Ground.data }, { on := 12, ground := Ground.data }, { on := 15, ground := Ground.data }, { on := 18, ground := Ground.data }, { on := 23, ground := Ground.data }, { on := 28, ground := Ground.data }], guard := none }) (v := ?_) rfl (by kernel_rfl) (by kernel_rfl) (by kernel_rfl) (fun _ _ _ h => h) (Or.inl ⟨by rfl, ?_⟩) (by assumption) ?_
                rotate_left
                · (intro w hSw; (try dsimp only at hSw); go_simp; try with_reducible rfl)
                try simp only [Act.put, List.setIfInBounds_toArray, List.set_cons_zero, List.set_cons_succ]
                refine wpAnyH_ready (rs := [30, 34]) (by kernel_rfl) (by simp) ?_
                refine AllReadyH.cons (o := { dst := some 70, op := Op.box 93 (Operand.tmp 69), type := 58, pos := "accept_packet.go:45", after := #[{ on := 29, ground := Ground.data }], guard := none }) rfl (fun K' hK => ?_) ?_
                ·
                  have hk := heap_alloc_new q82 (.cells #[.slice none 0 0, .string ⟨#[]⟩, .int .u16 V8, .int .u16 0, .int .u16 0, .int .u16 V10, .int .u16 0, .int .u16 V16, .string ⟨#[]⟩, .bool false, .int .u8 A0, .int .u8 A1, .int .u32 V12, .int .u32 V14, .bool false, .bool false, .bool false, .bool false] 93)
                  have hbK := hG.size
                  have hne := Nat.ne_of_lt (lt_of_some hz)
                  have hz := ((Gr.refl q82).alloc (.cells #[.slice none 0 0, .string ⟨#[]⟩, .int .u16 V8, .int .u16 0, .int .u16 0, .int .u16 V10, .int .u16 0, .int .u16 V16, .string ⟨#[]⟩, .bool false, .int .u8 A0, .int .u8 A1, .int .u32 V12, .int .u32 V14, .bool false, .bool false, .bool false, .bool false] 93)).heap hz
                  have hG := hG.alloc (.cells #[.slice none 0 0, .string ⟨#[]⟩, .int .u16 V8, .int .u16 0, .int .u16 0, .int .u16 V10, .int .u16 0, .int .u16 V16, .string ⟨#[]⟩, .bool false, .int .u8 A0, .int .u8 A1, .int .u32 V12, .int .u32 V14, .bool false, .bool false, .bool false, .bool false] 93)
                  go_simp
                  generalize q82.heap.size = K at *
                  generalize hcc : q82.alloc (.cells #[.slice none 0 0, .string ⟨#[]⟩, .int .u16 V8, .int .u16 0, .int .u16 0, .int .u16 V10, .int .u16 0, .int .u16 V16, .string ⟨#[]⟩, .bool false, .int .u8 A0, .int .u8 A1, .int .u32 V12, .int .u32 V14, .bool false, .bool false, .bool false, .bool false] 93) = q83 at *
                  clear hcc
                  refine hK.out _ _ ⟨hG.cell k4, hG.cell k5, hG.cell k22, hG.cell k23⟩ (fun hHeld => ?_)
                  clear hK K'
                  try simp only [List.setIfInBounds_toArray, List.set_cons_zero, List.set_cons_succ]
                  refine wpAnyH_ready (rs := [34]) (by kernel_rfl) (by simp) ?_
                  refine AllReadyH.cons (o := { dst := some 74, op := Op.call { callee := Callee.value (Operand.func 54), args := #[Operand.tmp 71, Operand.tmp 73], argTypes := #[109, 30] }, type := 22, pos := "accept_packet.go:65", after := #[{ on := 31, ground := Ground.data }, { on := 33, ground := Ground.data }, { on := 27, ground := Ground.chain }], guard := none }) rfl (fun K' hK => ?_) ?_
                  ·
                    go_simp
                    go_at_call 54; go_must (refine (U20 _ (H.out.gr hG)).out.mono ?_); rintro e q84 ⟨rfl, hg⟩
                    have hG := hG.trans hg
                    have hz := hg.heap hz
                    have hk := hg.heap hk
                    go_wp2_with fail
                    clear hg
                    refine hK.out _ _ ⟨hG.cell k4, hG.cell k5, hG.cell k22, hG.cell k23⟩ (fun hHeld => ?_)
                    clear hK K'
                    try simp only [List.setIfInBounds_toArray, List.set_cons_zero, List.set_cons_succ]
                    refine wpAnyH_ready (rs := [37]) (by kernel_rfl) (by simp) ?_
                    refine AllReadyH.cons (o := { dst := some 77, op := Op.call { callee := Callee.value (Operand.func 54), args := #[Operand.tmp 75, Operand.tmp 76], argTypes := #[109, 30] }, type := 22, pos := "accept_packet.go:66", after := #[{ on := 35, ground := Ground.data }, { on := 36, ground := Ground.data }, { on := 34, ground := Ground.chain }], guard := none }) rfl (fun K' hK => ?_) ?_
                    ·
                      go_simp
                      go_at_call 54; go_must (refine (U0 _ (H.out.gr hG)).out.mono ?_); rintro e q85 ⟨rfl, hg⟩
                      have hG := hG.trans hg
                      have hz := hg.heap hz
                      have hk := hg.heap hk
                      go_wp2_with fail
                      clear hg
                      refine hK.out _ _ ⟨hG.cell k4, hG.cell k5, hG.cell k22, hG.cell k23⟩ (fun hHeld => ?_)
                      clear hK K'
                      try simp only [List.setIfInBounds_toArray, List.set_cons_zero, List.set_cons_succ]
                      refine wpAnyH_take (i := 38) (oi := { dst := some 78, op := Op.convert 22 23 (Operand.tmp 77), type := 23, pos := "accept_packet.go:45", after := #[{ on := 37, ground := Ground.data }], guard := none }) (v := ?_) rfl (by kernel_rfl) (by kernel_rfl) (by kernel_rfl) (fun _ _ _ h => h) (Or.inl ⟨by rfl, ?_⟩) (by assumption) ?_
                      rotate_left
                      · (intro w hSw; (try dsimp only at hSw); go_simp; try with_reducible rfl)
                      try simp only [Act.put, List.setIfInBounds_toArray, List.set_cons_zero, List.set_cons_succ]
                      refine wpAnyH_take (i := 45) (oi := { dst := some 85, op := Op.build 69 #[(4, Operand.tmp 70), (0, Operand.tmp 74), (1, Operand.tmp 78), (2, Operand.tmp 81), (3, Operand.tmp 84)], type := 69, pos := "accept_packet.go:45", after := #[{ on := 30, ground := Ground.data }, { on := 34, ground := Ground.data }, { on := 38, ground := Ground.data }, { on := 41, ground := Ground.data }, { on := 44, ground := Ground.data }], guard := none }) (v := ?_) rfl (by kernel_rfl) (by kernel_rfl) (by kernel_rfl) (fun _ _ _ h => h) (Or.inl ⟨by rfl, ?_⟩) (by assumption) ?_
                      rotate_left
                      · (intro w hSw; (try dsimp only at hSw); go_simp; try with_reducible rfl)
                      try simp only [Act.put, List.setIfInBounds_toArray, List.set_cons_zero, List.set_cons_succ]
                      refine wpAnyH_take (i := 46) (oi := { dst := some 86, op := Op.build 91 #[(0, Operand.tmp 85)], type := 91, pos := "accept_packet.go:45", after := #[{ on := 45, ground := Ground.data }], guard := none }) (v := ?_) rfl (by kernel_rfl) (by kernel_rfl) (by kernel_rfl) (fun _ _ _ h => h) (Or.inl ⟨by rfl, ?_⟩) (by assumption) ?_
                      rotate_left
                      · (intro w hSw; (try dsimp only at hSw); go_simp; try with_reducible rfl)
                      try simp only [Act.put, List.setIfInBounds_toArray, List.set_cons_zero, List.set_cons_succ]
                      refine wpAnyH_ready (rs := [48]) (by kernel_rfl) (by simp) ?_
                      refine AllReadyH.cons (o := accStore) rfl (fun K' hK => ?_) ?_
                      ·
                        dsimp only [accStore]
                        obtain ⟨z0, z1, z2, z3, z4, z5, y0, y1, y2, y3, y4, y5⟩ := acc_cells hz
                        have HF := Lib.hid (acc_store (D : Nat) V0 TY FL hz hk (by omega) hbJ hbK hG)
                        have hG := HF.out.1
                        go_simp
                        refine hK.out _ _ ⟨hG.cell k4, hG.cell k5, hG.cell k22, hG.cell k23⟩ (fun hHeld => ?_)
                        clear hK K'
                        try simp only [List.setIfInBounds_toArray, List.set_cons_zero, List.set_cons_succ]
                        refine wpAnyH_done (by kernel_rfl) ?_ _
                        go_wp2_with fail
                        go_meet
                        exact HF.out.2
                      exact AllReadyH.nil
                    exact AllReadyH.nil
                  exact AllReadyH.nil
                refine AllReadyH.cons (o := { dst := some 74, op := Op.call { callee := Callee.value (Operand.func 54), args := #[Operand.tmp 71, Operand.tmp 73], argTypes := #[109, 30] }, type := 22, pos := "accept_packet.go:65", after := #[{ on := 31, ground := Ground.data }, { on := 33, ground := Ground.data }, { on := 27, ground := Ground.chain }], guard := none }) rfl (fun K' hK => ?_) ?_
                ·
                  go_simp
                  go_at_call 54; go_must (refine (U20 _ (H.out.gr hG)).out.mono ?_); rintro e q87 ⟨rfl, hg⟩
                  have hG := hG.trans hg
                  have hz := hg.heap hz
                  go_wp2_with fail
                  clear hg
                  refine hK.out _ _ ⟨hG.cell k4, hG.cell k5, hG.cell k22, hG.cell k23⟩ (fun hHeld => ?_)
                  clear hK K'
                  try simp only [List.setIfInBounds_toArray, List.set_cons_zero, List.set_cons_succ]
                  refine wpAnyH_ready (rs := [30, 37]) (by kernel_rfl) (by simp) ?_
                  refine AllReadyH.cons (o := { dst := some 70, op := Op.box 93 (Operand.tmp 69), type := 58, pos := "accept_packet.go:45", after := #[{ on := 29, ground := Ground.data }], guard := none }) rfl (fun K' hK => ?_) ?_
                  ·
                    have hk := heap_alloc_new q87 (.cells #[.slice none 0 0, .string ⟨#[]⟩, .int .u16 V8, .int .u16 0, .int .u16 0, .int .u16 V10, .int .u16 0, .int .u16 V16, .string ⟨#[]⟩, .bool false, .int .u8 A0, .int .u8 A1, .int .u32 V12, .int .u32 V14, .bool false, .bool false, .bool false, .bool false] 93)
                    have hbK := hG.size
                    have hne := Nat.ne_of_lt (lt_of_some hz)
                    have hz := ((Gr.refl q87).alloc (.cells #[.slice none 0 0, .string ⟨#[]⟩, .int .u16 V8, .int .u16 0, .int .u16 0, .int .u16 V10, .int .u16 0, .int .u16 V16, .string ⟨#[]⟩, .bool false, .int .u8 A0, .int .u8 A1, .int .u32 V12, .int .u32 V14, .bool false, .bool false, .bool false, .bool false] 93)).heap hz
                    have hG := hG.alloc (.cells #[.slice none 0 0, .string ⟨#[]⟩, .int .u16 V8, .int .u16 0, .int .u16 0, .int .u16 V10, .int .u16 0, .int .u16 V16, .string ⟨#[]⟩, .bool false, .int .u8 A0, .int .u8 A1, .int .u32 V12, .int .u32 V14, .bool false, .bool false, .bool false, .bool false] 93)
                    go_simp
                    generalize q87.heap.size = K at *
                    generalize hcc : q87.alloc (.cells #[.slice none 0 0, .string ⟨#[]⟩, .int .u16 V8, .int .u16 0, .int .u16 0, .int .u16 V10, .int .u16 0, .int .u16 V16, .string ⟨#[]⟩, .bool false, .int .u8 A0, .int .u8 A1, .int .u32 V12, .int .u32 V14, .bool false, .bool false, .bool false, .bool false] 93) = q88 at *
                    clear hcc
                    refine hK.out _ _ ⟨hG.cell k4, hG.cell k5, hG.cell k22, hG.cell k23⟩ (fun hHeld => ?_)
                    clear hK K'
                    try simp only [List.setIfInBounds_toArray, List.set_cons_zero, List.set_cons_succ]
                    refine wpAnyH_ready (rs := [37]) (by kernel_rfl) (by simp) ?_
                    refine AllReadyH.cons (o := { dst := some 77, op := Op.call { callee := Callee.value (Operand.func 54), args := #[Operand.tmp 75, Operand.tmp 76], argTypes := #[109, 30] }, type := 22, pos := "accept_packet.go:66", after := #[{ on := 35, ground := Ground.data }, { on := 36, ground := Ground.data }, { on := 34, ground := Ground.chain }], guard := none }) rfl (fun K' hK => ?_) ?_
                    ·
                      go_simp
                      go_at_call 54; go_must (refine (U0 _ (H.out.gr hG)).out.mono ?_); rintro e q89 ⟨rfl, hg⟩
                      have hG := hG.trans hg
                      have hz := hg.heap hz
                      have hk := hg.heap hk
                      go_wp2_with fail
                      clear hg
                      refine hK.out _ _ ⟨hG.cell k4, hG.cell k5, hG.cell k22, hG.cell k23⟩ (fun hHeld => ?_)
                      clear hK K'
                      try simp only [List.setIfInBounds_toArray, List.set_cons_zero, List.set_cons_succ]
                      refine wpAnyH_take (i := 38) (oi := { dst := some 78, op := Op.convert 22 23 (Operand.tmp 77), type := 23, pos := "accept_packet.go:45", after := #[{ on := 37, ground := Ground.data }], guard := none }) (v := ?_) rfl (by kernel_rfl) (by kernel_rfl) (by kernel_rfl) (fun _ _ _ h => h) (Or.inl ⟨by rfl, ?_⟩) (by assumption) ?_
                      rotate_left
                      · (intro w hSw; (try dsimp only at hSw); go_simp; try with_reducible rfl)
                      try simp only [Act.put, List.setIfInBounds_toArray, List.set_cons_zero, List.set_cons_succ]
                      refine wpAnyH_take (i := 45) (oi := { dst := some 85, op := Op.build 69 #[(4, Operand.tmp 70), (0, Operand.tmp 74), (1, Operand.tmp 78), (2, Operand.tmp 81), (3, Operand.tmp 84)], type := 69, pos := "accept_packet.go:45", after := #[{ on := 30, ground := Ground.data }, { on := 34, ground := Ground.data }, { on := 38, ground := Ground.data }, { on := 41, ground := Ground.data }, { on := 44, ground := Ground.data }], guard := none }) (v := ?_) rfl (by kernel_rfl) (by kernel_rfl) (by kernel_rfl) (fun _ _ _ h => h) (Or.inl ⟨by rfl, ?_⟩) (by assumption) ?_
                      rotate_left
                      · (intro w hSw; (try dsimp only at hSw); go_simp; try with_reducible rfl)
                      try simp only [Act.put, List.setIfInBounds_toArray, List.set_cons_zero, List.set_cons_succ]
                      refine wpAnyH_take (i := 46) (oi := { dst := some 86, op := Op.build 91 #[(0, Operand.tmp 85)], type := 91, pos := "accept_packet.go:45", after := #[{ on := 45, ground := Ground.data }], guard := none }) (v := ?_) rfl (by kernel_rfl) (by kernel_rfl) (by kernel_rfl) (fun _ _ _ h => h) (Or.inl ⟨by rfl, ?_⟩) (by assumption) ?_
                      rotate_left
                      · (intro w hSw; (try dsimp only at hSw); go_simp; try with_reducible rfl)
                      try simp only [Act.put, List.setIfInBounds_toArray, List.set_cons_zero, List.set_cons_succ]
                      refine wpAnyH_ready (rs := [48]) (by kernel_rfl) (by simp) ?_
                      refine AllReadyH.cons (o := accStore) rfl (fun K' hK => ?_) ?_
                      ·
                        dsimp only [accStore]
                        obtain ⟨z0, z1, z2, z3, z4, z5, y0, y1, y2, y3, y4, y5⟩ := acc_cells hz
                        have HF := Lib.hid (acc_store (D : Nat) V0 TY FL hz hk (by omega) hbJ hbK hG)
                        have hG := HF.out.1
                        go_simp
                        refine hK.out _ _ ⟨hG.cell k4, hG.cell k5, hG.cell k22, hG.cell k23⟩ (fun hHeld => ?_)
                        clear hK K'
                        try simp only [List.setIfInBounds_toArray, List.set_cons_zero, List.set_cons_succ]
                        refine wpAnyH_done (by kernel_rfl) ?_ _
                        go_wp2_with fail
                        go_meet
                        exact HF.out.2
                      exact AllReadyH.nil
                    exact AllReadyH.nil
                  refine AllReadyH.cons (o := { dst := some 77, op := Op.call { callee := Callee.value (Operand.func 54), args := #[Operand.tmp 75, Operand.tmp 76], argTypes := #[109, 30] }, type := 22, pos := "accept_packet.go:66", after := #[{ on := 35, ground := Ground.data }, { on := 36, ground := Ground.data }, { on := 34, ground := Ground.chain }], guard := none }) rfl (fun K' hK => ?_) ?_
                  ·
                    go_simp
                    go_at_call 54; go_must (refine (U0 _ (H.out.gr hG)).out.mono ?_); rintro e q91 ⟨rfl, hg⟩
                    have hG := hG.trans hg
                    have hz := hg.heap hz
                    go_wp2_with fail
                    clear hg
                    refine hK.out _ _ ⟨hG.cell k4, hG.cell k5, hG.cell k22, hG.cell k23⟩ (fun hHeld => ?_)
                    clear hK K'
                    try simp only [List.setIfInBounds_toArray, List.set_cons_zero, List.set_cons_succ]
                    refine wpAnyH_take (i := 38) (oi := { dst := some 78, op := Op.convert 22 23 (Operand.tmp 77), type := 23, pos := "accept_packet.go:45", after := #[{ on := 37, ground := Ground.data }], guard := none }) (v := ?_) rfl (by kernel_rfl) (by kernel_rfl) (by kernel_rfl) (fun _ _ _ h => h) (Or.inl ⟨by rfl, ?_⟩) (by assumption) ?_
                    rotate_left
                    · (intro w hSw; (try dsimp only at hSw); go_simp; try with_reducible rfl)
                    try simp only [Act.put, List.setIfInBounds_toArray, List.set_cons_zero, List.set_cons_succ]
                    refine wpAnyH_ready (rs := [30]) (by kernel_rfl) (by simp) ?_
                    refine AllReadyH.cons (o := { dst := some 70, op := Op.box 93 (Operand.tmp 69), type := 58, pos := "accept_packet.go:45", after := #[{ on := 29, ground := Ground.data }], guard := none }) rfl (fun K' hK => ?_) ?_
                    ·
                      have hk := heap_alloc_new q91 (.cells #[.slice none 0 0, .string ⟨#[]⟩, .int .u16 V8, .int .u16 0, .int .u16 0, .int .u16 V10, .int .u16 0, .int .u16 V16, .string ⟨#[]⟩, .bool false, .int .u8 A0, .int .u8 A1, .int .u32 V12, .int .u32 V14, .bool false, .bool false, .bool false, .bool false] 93)
                      have hbK := hG.size
                      have hne := Nat.ne_of_lt (lt_of_some hz)
                      have hz := ((Gr.refl q91).alloc (.cells #[.slice none 0 0, .string ⟨#[]⟩, .int .u16 V8, .int .u16 0, .int .u16 0, .int .u16 V10, .int .u16 0, .int .u16 V16, .string ⟨#[]⟩, .bool false, .int .u8 A0, .int .u8 A1, .int .u32 V12, .int .u32 V14, .bool false, .bool false, .bool false, .bool false] 93)).heap hz
                      have hG := hG.alloc (.cells #[.slice none 0 0, .string ⟨#[]⟩, .int .u16 V8, .int .u16 0, .int .u16 0, .int .u16 V10, .int .u16 0, .int .u16 V16, .string ⟨#[]⟩, .bool false, .int .u8 A0, .int .u8 A1, .int .u32 V12, .int .u32 V14, .bool false, .bool false, .bool false, .bool false] 93)
                      go_simp
                      generalize q91.heap.size = K at *
                      generalize hcc : q91.alloc (.cells #[.slice none 0 0, .string ⟨#[]⟩, .int .u16 V8, .int .u16 0, .int .u16 0, .int .u16 V10, .int .u16 0, .int .u16 V16, .string ⟨#[]⟩, .bool false, .int .u8 A0, .int .u8 A1, .int .u32 V12, .int .u32 V14, .bool false, .bool false, .bool false, .bool false] 93) = q92 at *
                      clear hcc
                      refine hK.out _ _ ⟨hG.cell k4, hG.cell k5, hG.cell k22, hG.cell k23⟩ (fun hHeld => ?_)
                      clear hK K'
                      try simp only [List.setIfInBounds_toArray, List.set_cons_zero, List.set_cons_succ]
                      refine wpAnyH_take (i := 45) (oi := { dst := some 85, op := Op.build 69 #[(4, Operand.tmp 70), (0, Operand.tmp 74), (1, Operand.tmp 78), (2, Operand.tmp 81), (3, Operand.tmp 84)], type := 69, pos := "accept_packet.go:45", after := #[{ on := 30, ground := Ground.data }, { on := 34, ground := Ground.data }, { on := 38, ground := Ground.data }, { on := 41, ground := Ground.data }, { on := 44, ground := Ground.data }], guard := none }) (v := ?_) rfl (by kernel_rfl) (by kernel_rfl) (by kernel_rfl) (fun _ _ _ h => h) (Or.inl ⟨by rfl, ?_⟩) (by assumption) ?_
                      rotate_left
                      · (intro w hSw; (try dsimp only at hSw); go_simp; try with_reducible rfl)
                      try simp only [Act.put, List.setIfInBounds_toArray, List.set_cons_zero, List.set_cons_succ]
                      refine wpAnyH_take (i := 46) (oi := { dst := some 86, op := Op.build 91 #[(0, Operand.tmp 85)], type := 91, pos := "accept_packet.go:45", after := #[{ on := 45, ground := Ground.data }], guard := none }) (v := ?_) rfl (by kernel_rfl) (by kernel_rfl) (by kernel_rfl) (fun _ _ _ h => h) (Or.inl ⟨by rfl, ?_⟩) (by assumption) ?_
                      rotate_left
                      · (intro w hSw; (try dsimp only at hSw); go_simp; try with_reducible rfl)
                      try simp only [Act.put, List.setIfInBounds_toArray, List.set_cons_zero, List.set_cons_succ]
                      refine wpAnyH_ready (rs := [48]) (by kernel_rfl) (by simp) ?_
                      refine AllReadyH.cons (o := accStore) rfl (fun K' hK => ?_) ?_
                      ·
                        dsimp only [accStore]
                        obtain ⟨z0, z1, z2, z3, z4, z5, y0, y1, y2, y3, y4, y5⟩ := acc_cells hz
                        have HF := Lib.hid (acc_store (D : Nat) V0 TY FL hz hk (by omega) hbJ hbK hG)
                        have hG := HF.out.1
                        go_simp
                        refine hK.out _ _ ⟨hG.cell k4, hG.cell k5, hG.cell k22, hG.cell k23⟩ (fun hHeld => ?_)
                        clear hK K'
                        try simp only [List.setIfInBounds_toArray, List.set_cons_zero, List.set_cons_succ]
                        refine wpAnyH_done (by kernel_rfl) ?_ _
                        go_wp2_with fail
                        go_meet
                        exact HF.out.2
                      exact AllReadyH.nil
                    exact AllReadyH.nil
                  exact AllReadyH.nil
                exact AllReadyH.nil
              exact AllReadyH.nil
            exact AllReadyH.nil
          exact AllReadyH.nil
        exact AllReadyH.nil
      refine AllReadyH.cons (o := { dst := some 6, op := Op.alloc 91, type := 0, pos := "accept_packet.go:45", after := #[], guard := none }) rfl (fun K' hK => ?_) ?_
      ·
        have hz := heap_alloc_new q1 (.cells #[.int .u16 0, .int .u32 0, .int .u8 0, .int .u8 0, .pointer none, .slice none 0 0] 91)
        have hbJ := hG.size
        have hG := hG.alloc (.cells #[.int .u16 0, .int .u32 0, .int .u8 0, .int .u8 0, .pointer none, .slice none 0 0] 91)
        go_simp
        generalize q1.heap.size = J at *
        generalize hcc : q1.alloc (.cells #[.int .u16 0, .int .u32 0, .int .u8 0, .int .u8 0, .pointer none, .slice none 0 0] 91) = q94 at *
        clear hcc
        refine hK.out _ _ ⟨hG.cell k4, hG.cell k5, hG.cell k22, hG.cell k23⟩ (fun hHeld => ?_)
        clear hK K'
        try simp only [List.setIfInBounds_toArray, List.set_cons_zero, List.set_cons_succ]
        refine wpAnyH_ready (rs := [7]) (by kernel_rfl) (by simp) ?_
        refine AllReadyH.cons (o := { dst := some 47, op := Op.call { callee := Callee.value (Operand.func 54), args := #[Operand.tmp 44, Operand.tmp 46], argTypes := #[109, 30] }, type := 22, pos := "accept_packet.go:52", after := #[{ on := 4, ground := Ground.data }, { on := 6, ground := Ground.data }, { on := 3, ground := Ground.chain }], guard := none }) rfl (fun K' hK => ?_) ?_
        ·
          go_simp
          go_at_call 54; go_must (refine (U10 _ (H.out.gr hG)).out.mono ?_); rintro e q95 ⟨rfl, hg⟩
          have hG := hG.trans hg
          have hz := hg.heap hz
          go_wp2_with fail
          clear hg
          refine hK.out _ _ ⟨hG.cell k4, hG.cell k5, hG.cell k22, hG.cell k23⟩ (fun hHeld => ?_)
          clear hK K'
          try simp only [List.setIfInBounds_toArray, List.set_cons_zero, List.set_cons_succ]
          refine wpAnyH_ready (rs := [11]) (by kernel_rfl) (by simp) ?_
          refine AllReadyH.cons (o := { dst := some 51, op := Op.call { callee := Callee.value (Operand.func 54), args := #[Operand.tmp 48, Operand.tmp 50], argTypes := #[109, 30] }, type := 22, pos := "accept_packet.go:54", after := #[{ on := 8, ground := Ground.data }, { on := 10, ground := Ground.data }, { on := 7, ground := Ground.chain }], guard := none }) rfl (fun K' hK => ?_) ?_
          ·
            go_simp
            go_at_call 54; go_must (refine (U16 _ (H.out.gr hG)).out.mono ?_); rintro e q96 ⟨rfl, hg⟩
            have hG := hG.trans hg
            have hz := hg.heap hz
            go_wp2_with fail
            clear hg
            refine hK.out _ _ ⟨hG.cell k4, hG.cell k5, hG.cell k22, hG.cell k23⟩ (fun hHeld => ?_)
            clear hK K'
            try simp only [List.setIfInBounds_toArray, List.set_cons_zero, List.set_cons_succ]
            refine wpAnyH_ready (rs := [22]) (by kernel_rfl) (by simp) ?_
            refine AllReadyH.cons (o := { dst := some 62, op := Op.call { callee := Callee.value (Operand.func 54), args := #[Operand.tmp 59, Operand.tmp 61], argTypes := #[109, 30] }, type := 22, pos := "accept_packet.go:58", after := #[{ on := 19, ground := Ground.data }, { on := 21, ground := Ground.data }, { on := 11, ground := Ground.chain }], guard := none }) rfl (fun K' hK => ?_) ?_
            ·
              go_simp
              go_at_call 54; go_must (refine (U12 _ (H.out.gr hG)).out.mono ?_); rintro e q97 ⟨rfl, hg⟩
              have hG := hG.trans hg
              have hz := hg.heap hz
              go_wp2_with fail
              clear hg
              refine hK.out _ _ ⟨hG.cell k4, hG.cell k5, hG.cell k22, hG.cell k23⟩ (fun hHeld => ?_)
              clear hK K'
              try simp only [List.setIfInBounds_toArray, List.set_cons_zero, List.set_cons_succ]
              refine wpAnyH_take (i := 23) (oi := { dst := some 63, op := Op.convert 22 23 (Operand.tmp 62), type := 23, pos := "accept_packet.go:45", after := #[{ on := 22, ground := Ground.data }], guard := none }) (v := ?_) rfl (by kernel_rfl) (by kernel_rfl) (by kernel_rfl) (fun _ _ _ h => h) (Or.inl ⟨by rfl, ?_⟩) (by assumption) ?_
              rotate_left
              · (intro w hSw; (try dsimp only at hSw); go_simp; try with_reducible rfl)
              try simp only [Act.put, List.setIfInBounds_toArray, List.set_cons_zero, List.set_cons_succ]
              refine wpAnyH_ready (rs := [27]) (by kernel_rfl) (by simp) ?_
              refine AllReadyH.cons (o := { dst := some 67, op := Op.call { callee := Callee.value (Operand.func 54), args := #[Operand.tmp 64, Operand.tmp 66], argTypes := #[109, 30] }, type := 22, pos := "accept_packet.go:59", after := #[{ on := 24, ground := Ground.data }, { on := 26, ground := Ground.data }, { on := 22, ground := Ground.chain }], guard := none }) rfl (fun K' hK => ?_) ?_
              ·
                go_simp
                go_at_call 54; go_must (refine (U14 _ (H.out.gr hG)).out.mono ?_); rintro e q98 ⟨rfl, hg⟩
                have hG := hG.trans hg
                have hz := hg.heap hz
                go_wp2_with fail
                clear hg
                refine hK.out _ _ ⟨hG.cell k4, hG.cell k5, hG.cell k22, hG.cell k23⟩ (fun hHeld => ?_)
                clear hK K'
                try simp only [List.setIfInBounds_toArray, List.set_cons_zero, List.set_cons_succ]
                refine wpAnyH_take (i := 28) (oi := { dst := some 68, op := Op.convert 22 23 (Operand.tmp 67), type := 23, pos := "accept_packet.go:45", after := #[{ on := 27, ground := Ground.data }], guard := none }) (v := ?_) rfl (by kernel_rfl) (by kernel_rfl) (by kernel_rfl) (fun _ _ _ h => h) (Or.inl ⟨by rfl, ?_⟩) (by assumption) ?_
                rotate_left
                · (intro w hSw; (try dsimp only at hSw); go_simp; try with_reducible rfl)
                try simp only [Act.put, List.setIfInBounds_toArray, List.set_cons_zero, List.set_cons_succ]
                refine wpAnyH_take (i := 29) (oi := { dst := some 69, op := Op.build 93 #[(0, Operand.const (Value.slice none 0 0)), (2, Operand.tmp 43), (3, Operand.const (Value.int IntKind.u16 0)), (4, Operand.const (Value.int IntKind.u16 0)), (5, Operand.tmp 47), (6, Operand.const (Value.int IntKind.u16 0)), (7, Operand.tmp 51), (8, Operand.tmp 52), (10, Operand.tmp 55), (11, Operand.tmp 58), (12, Operand.tmp 63), (13, Operand.tmp 68), (14, Operand.const (Value.bool false)), (15, Operand.const (Value.bool false)), (16, Operand.const (Value.bool false)), (17, Operand.const (Value.bool false))], type := 93, pos := "accept_packet.go:45", after := #[{ on := 3, ground := Ground.data }, { on := 7, ground := Ground.data }, { on := 11, ground := Ground.data }, { on := 12, ground := Ground.data }, { on := 15, ground := Ground.data }, { on := 18, ground := Ground.data }, { on := 23, ground := Ground.data }, { on := 28, ground := Ground.data }], guard := none }) (v := ?_) rfl (by kernel_rfl) (by kernel_rfl) (by kernel_rfl) (fun _ _ _ h => h) (Or.inl ⟨by rfl, ?_⟩) (by assumption) ?_
                rotate_left
                · (intro w hSw; (try dsimp only at hSw); go_simp; try with_reducible rfl)
                try simp only [Act.put, List.setIfInBounds_toArray, List.set_cons_zero, List.set_cons_succ]
                refine wpAnyH_ready (rs := [30, 34]) (by kernel_rfl) (by simp) ?_
                refine AllReadyH.cons (o := { dst := some 70, op := Op.box 93 (Operand.tmp 69), type := 58, pos := "accept_packet.go:45", after := #[{ on := 29, ground := Ground.data }], guard := none }) rfl (fun K' hK => ?_) ?_
                ·
                  have hk := heap_alloc_new q98 (.cells #[.slice none 0 0, .string ⟨#[]⟩, .int .u16 V8, .int .u16 0, .int .u16 0, .int .u16 V10, .int .u16 0, .int .u16 V16, .string ⟨#[]⟩, .bool false, .int .u8 A0, .int .u8 A1, .int .u32 V12, .int .u32 V14, .bool false, .bool false, .bool false, .bool false] 93)
                  have hbK := hG.size
                  have hne := Nat.ne_of_lt (lt_of_some hz)
                  have hz := ((Gr.refl q98).alloc (.cells #[.slice none 0 0, .string ⟨#[]⟩, .int .u16 V8, .int .u16 0, .int .u16 0, .int .u16 V10, .int .u16 0, .int .u16 V16, .string ⟨#[]⟩, .bool false, .int .u8 A0, .int .u8 A1, .int .u32 V12, .int .u32 V14, .bool false, .bool false, .bool false, .bool false] 93)).heap hz
                  have hG := hG.alloc (.cells #[.slice none 0 0, .string ⟨#[]⟩, .int .u16 V8, .int .u16 0, .int .u16 0, .int .u16 V10, .int .u16 0, .int .u16 V16, .string ⟨#[]⟩, .bool false, .int .u8 A0, .int .u8 A1, .int .u32 V12, .int .u32 V14, .bool false, .bool false, .bool false, .bool false] 93)
                  go_simp
                  generalize q98.heap.size = K at *
                  generalize hcc : q98.alloc (.cells #[.slice none 0 0, .string ⟨#[]⟩, .int .u16 V8, .int .u16 0, .int .u16 0, .int .u16 V10, .int .u16 0, .int .u16 V16, .string ⟨#[]⟩, .bool false, .int .u8 A0, .int .u8 A1, .int .u32 V12, .int .u32 V14, .bool false, .bool false, .bool false, .bool false] 93) = q99 at *
                  clear hcc
                  refine hK.out _ _ ⟨hG.cell k4, hG.cell k5, hG.cell k22, hG.cell k23⟩ (fun hHeld => ?_)
                  clear hK K'
                  try simp only [List.setIfInBounds_toArray, List.set_cons_zero, List.set_cons_succ]
                  refine wpAnyH_ready (rs := [34]) (by kernel_rfl) (by simp) ?_
                  refine AllReadyH.cons (o := { dst := some 74, op := Op.call { callee := Callee.value (Operand.func 54), args := #[Operand.tmp 71, Operand.tmp 73], argTypes := #[109, 30] }, type := 22, pos := "accept_packet.go:65", after := #[{ on := 31, ground := Ground.data }, { on := 33, ground := Ground.data }, { on := 27, ground := Ground.chain }], guard := none }) rfl (fun K' hK => ?_) ?_
                  ·
                    go_simp
                    go_at_call 54; go_must (refine (U20 _ (H.out.gr hG)).out.mono ?_); rintro e q100 ⟨rfl, hg⟩
                    have hG := hG.trans hg
                    have hz := hg.heap hz
                    have hk := hg.heap hk
                    go_wp2_with fail
                    clear hg
                    refine hK.out _ _ ⟨hG.cell k4, hG.cell k5, hG.cell k22, hG.cell k23⟩ (fun hHeld => ?_)
                    clear hK K'
                    try simp only [List.setIfInBounds_toArray, List.set_cons_zero, List.set_cons_succ]
                    refine wpAnyH_ready (rs := [37]) (by kernel_rfl) (by simp) ?_
                    refine AllReadyH.cons (o := { dst := some 77, op := Op.call { callee := Callee.value (Operand.func 54), args := #[Operand.tmp 75, Operand.tmp 76], argTypes := #[109, 30] }, type := 22, pos := "accept_packet.go:66", after := #[{ on := 35, ground := Ground.data }, { on := 36, ground := Ground.data }, { on := 34, ground := Ground.chain }], guard := none }) rfl (fun K' hK => ?_) ?_
                    ·
                      go_simp
                      go_at_call 54; go_must (refine (U0 _ (H.out.gr hG)).out.mono ?_); rintro e q101 ⟨rfl, hg⟩
                      have hG := hG.trans hg
                      have hz := hg.heap hz
                      have hk := hg.heap hk
                      go_wp2_with fail
                      clear hg
                      refine hK.out _ _ ⟨hG.cell k4, hG.cell k5, hG.cell k22, hG.cell k23⟩ (fun hHeld => ?_)
                      clear hK K'
                      try simp only [List.setIfInBounds_toArray, List.set_cons_zero, List.set_cons_succ]
                      refine wpAnyH_take (i := 38) (oi := { dst := some 78, op := Op.convert 22 23 (Operand.tmp 77), type := 23, pos := "accept_packet.go:45", after := #[{ on := 37, ground := Ground.data }], guard := none }) (v := ?_) rfl (by kernel_rfl) (by kernel_rfl) (by kernel_rfl) (fun _ _ _ h => h) (Or.inl ⟨by rfl, ?_⟩) (by assumption) ?_
                      rotate_left
                      · (intro w hSw; (try dsimp only at hSw); go_simp; try with_reducible rfl)
                      try simp only [Act.put, List.setIfInBounds_toArray, List.set_cons_zero, List.set_cons_succ]
                      refine wpAnyH_take (i := 45) (oi := { dst := some 85, op := Op.build 69 #[(4, Operand.tmp 70), (0, Operand.tmp 74), (1, Operand.tmp 78), (2, Operand.tmp 81), (3, Operand.tmp 84)], type := 69, pos := "accept_packet.go:45", after := #[{ on := 30, ground := Ground.data }, { on := 34, ground := Ground.data }, { on := 38, ground := Ground.data }, { on := 41, ground := Ground.data }, { on := 44, ground := Ground.data }], guard := none }) (v := ?_) rfl (by kernel_rfl) (by kernel_rfl) (by kernel_rfl) (fun _ _ _ h => h) (Or.inl ⟨by rfl, ?_⟩) (by assumption) ?_
                      rotate_left
                      · (intro w hSw; (try dsimp only at hSw); go_simp; try with_reducible rfl)
                      try simp only [Act.put, List.setIfInBounds_toArray, List.set_cons_zero, List.set_cons_succ]
                      refine wpAnyH_take (i := 46) (oi := { dst := some 86, op := Op.build 91 #[(0, Operand.tmp 85)], type := 91, pos := "accept_packet.go:45", after := #[{ on := 45, ground := Ground.data }], guard := none }) (v := ?_) rfl (by kernel_rfl) (by kernel_rfl) (by kernel_rfl) (fun _ _ _ h => h) (Or.inl ⟨by rfl, ?_⟩) (by assumption) ?_
                      rotate_left
                      · (intro w hSw; (try dsimp only at hSw); go_simp; try with_reducible rfl)
                      try simp only [Act.put, List.setIfInBounds_toArray, List.set_cons_zero, List.set_cons_succ]
                      refine wpAnyH_ready (rs := [48]) (by kernel_rfl) (by simp) ?_
                      refine AllReadyH.cons (o := accStore) rfl (fun K' hK => ?_) ?_
                      ·
                        dsimp only [accStore]
                        obtain ⟨z0, z1, z2, z3, z4, z5, y0, y1, y2, y3, y4, y5⟩ := acc_cells hz
                        have HF := Lib.hid (acc_store (D : Nat) V0 TY FL hz hk (by omega) hbJ hbK hG)
                        have hG := HF.out.1
                        go_simp
                        refine hK.out _ _ ⟨hG.cell k4, hG.cell k5, hG.cell k22, hG.cell k23⟩ (fun hHeld => ?_)
                        clear hK K'
                        try simp only [List.setIfInBounds_toArray, List.set_cons_zero, List.set_cons_succ]
                        refine wpAnyH_done (by kernel_rfl) ?_ _
                        go_wp2_with fail
                        go_meet
                        exact HF.out.2
                      exact AllReadyH.nil
                    exact AllReadyH.nil
                  exact AllReadyH.nil
                refine AllReadyH.cons (o := { dst := some 74, op := Op.call { callee := Callee.value (Operand.func 54), args := #[Operand.tmp 71, Operand.tmp 73], argTypes := #[109, 30] }, type := 22, pos := "accept_packet.go:65", after := #[{ on := 31, ground := Ground.data }, { on := 33, ground := Ground.data }, { on := 27, ground := Ground.chain }], guard := none }) rfl (fun K' hK => ?_) ?_
                ·
                  go_simp
                  go_at_call 54; go_must (refine (U20 _ (H.out.gr hG)).out.mono ?_); rintro e q103 ⟨rfl, hg⟩
                  have hG := hG.trans hg
                  have hz := hg.heap hz
                  go_wp2_with fail
                  clear hg
                  refine hK.out _ _ ⟨hG.cell k4, hG.cell k5, hG.cell k22, hG.cell k23⟩ (fun hHeld => ?_)
                  clear hK K'
                  try simp only [List.setIfInBounds_toArray, List.set_cons_zero, List.set_cons_succ]
                  refine wpAnyH_ready (rs := [30, 37]) (by kernel_rfl) (by simp) ?_
                  refine AllReadyH.cons (o := { dst := some 70, op := Op.box 93 (Operand.tmp 69), type := 58, pos := "accept_packet.go:45", after := #[{ on := 29, ground := Ground.data }], guard := none }) rfl (fun K' hK => ?_) ?_
                  ·
                    have hk := heap_alloc_new q103 (.cells #[.slice none 0 0, .string ⟨#[]⟩, .int .u16 V8, .int .u16 0, .int .u16 0, .int .u16 V10, .int .u16 0, .int .u16 V16, .string ⟨#[]⟩, .bool false, .int .u8 A0, .int .u8 A1, .int .u32 V12, .int .u32 V14, .bool false, .bool false, .bool false, .bool false] 93)
                    have hbK := hG.size
                    have hne := Nat.ne_of_lt (lt_of_some hz)
                    have hz := ((Gr.refl q103).alloc (.cells #[.slice none 0 0, .string ⟨#[]⟩, .int .u16 V8, .int .u16 0, .int .u16 0, .int .u16 V10, .int .u16 0, .int .u16 V16, .string ⟨#[]⟩, .bool false, .int .u8 A0, .int .u8 A1, .int .u32 V12, .int .u32 V14, .bool false, .bool false, .bool false, .bool false] 93)).heap hz
                    have hG := hG.alloc (.cells #[.slice none 0 0, .string ⟨#[]⟩, .int .u16 V8, .int .u16 0, .int .u16 0, .int .u16 V10, .int .u16 0, .int .u16 V16, .string ⟨#[]⟩, .bool false, .int .u8 A0, .int .u8 A1, .int .u32 V12, .int .u32 V14, .bool false, .bool false, .bool false, .bool false] 93)
                    go_simp
                    generalize q103.heap.size = K at *
                    generalize hcc : q103.alloc (.cells #[.slice none 0 0, .string ⟨#[]⟩, .int .u16 V8, .int .u16 0, .int .u16 0, .int .u16 V10, .int .u16 0, .int .u16 V16, .string ⟨#[]⟩, .bool false, .int .u8 A0, .int .u8 A1, .int .u32 V12, .int .u32 V14, .bool false, .bool false, .bool false, .bool false] 93) = q104 at *
                    clear hcc
                    refine hK.out _ _ ⟨hG.cell k4, hG.cell k5, hG.cell k22, hG.cell k23⟩ (fun hHeld => ?_)
                    clear hK K'
                    try simp only [List.setIfInBounds_toArray, List.set_cons_zero, List.set_cons_succ]
                    refine wpAnyH_ready (rs := [37]) (by kernel_rfl) (by simp) ?_
                    refine AllReadyH.cons (o := { dst := some 77, op := Op.call { callee := Callee.value (Operand.func 54), args := #[Operand.tmp 75, Operand.tmp 76], argTypes := #[109, 30] }, type := 22, pos := "accept_packet.go:66", after := #[{ on := 35, ground := Ground.data }, { on := 36, ground := Ground.data }, { on := 34, ground := Ground.chain }], guard := none }) rfl (fun K' hK => ?_) ?_
                    ·
                      go_simp
                      go_at_call 54; go_must (refine (U0 _ (H.out.gr hG)).out.mono ?_); rintro e q105 ⟨rfl, hg⟩
                      have hG := hG.trans hg
                      have hz := hg.heap hz
                      have hk := hg.heap hk
                      go_wp2_with fail
                      clear hg
                      refine hK.out _ _ ⟨hG.cell k4, hG.cell k5, hG.cell k22, hG.cell k23⟩ (fun hHeld => ?_)
                      clear hK K'
                      try simp only [List.setIfInBounds_toArray, List.set_cons_zero, List.set_cons_succ]
                      refine wpAnyH_take (i := 38) (oi := { dst := some 78, op := Op.convert 22 23 (Operand.tmp 77), type := 23, pos := "accept_packet.go:45", after := #[{ on := 37, ground := Ground.data }], guard := none }) (v := ?_) rfl (by kernel_rfl) (by kernel_rfl) (by kernel_rfl) (fun _ _ _ h => h) (Or.inl ⟨by rfl, ?_⟩) (by assumption) ?_
                      rotate_left
                      · (intro w hSw; (try dsimp only at hSw); go_simp; try with_reducible rfl)
                      try simp only [Act.put, List.setIfInBounds_toArray, List.set_cons_zero, List.set_cons_succ]
                      refine wpAnyH_take (i := 45) (oi := { dst := some 85, op := Op.build 69 #[(4, Operand.tmp 70), (0, Operand.tmp 74), (1, Operand.tmp 78), (2, Operand.tmp 81), (3, Operand.tmp 84)], type := 69, pos := "accept_packet.go:45", after := #[{ on := 30, ground := Ground.data }, { on := 34, ground := Ground.data }, { on := 38, ground := Ground.data }, { on := 41, ground := Ground.data }, { on := 44, ground := Ground.data }], guard := none }) (v := ?_) rfl (by kernel_rfl) (by kernel_rfl) (by kernel_rfl) (fun _ _ _ h => h) (Or.inl ⟨by rfl, ?_⟩) (by assumption) ?_
                      rotate_left
                      · (intro w hSw; (try dsimp only at hSw); go_simp; try with_reducible rfl)
                      try simp only [Act.put, List.setIfInBounds_toArray, List.set_cons_zero, List.set_cons_succ]
                      refine wpAnyH_take (i := 46) (oi := { dst := some 86, op := Op.build 91 #[(0, Operand.tmp 85)], type := 91, pos := "accept_packet.go:45", after := #[{ on := 45, ground := Ground.data }], guard := none }) (v := ?_) rfl (by kernel_rfl) (by kernel_rfl) (by kernel_rfl) (fun _ _ _ h => h) (Or.inl ⟨by rfl, ?_⟩) (by assumption) ?_
                      rotate_left
                      · (intro w hSw; (try dsimp only at hSw); go_simp; try with_reducible rfl)
                      try simp only [Act.put, List.setIfInBounds_toArray, List.set_cons_zero, List.set_cons_succ]
                      refine wpAnyH_ready (rs := [48]) (by kernel_rfl) (by simp) ?_
                      refine AllReadyH.cons (o := accStore) rfl (fun K' hK => ?_) ?_
                      ·
                        dsimp only [accStore]
                        obtain ⟨z0, z1, z2, z3, z4, z5, y0, y1, y2, y3, y4, y5⟩ := acc_cells hz
                        have HF := Lib.hid (acc_store (D : Nat) V0 TY FL hz hk (by omega) hbJ hbK hG)
                        have hG := HF.out.1
                        go_simp
                        refine hK.out _ _ ⟨hG.cell k4, hG.cell k5, hG.cell k22, hG.cell k23⟩ (fun hHeld => ?_)
                        clear hK K'
                        try simp only [List.setIfInBounds_toArray, List.set_cons_zero, List.set_cons_succ]
                        refine wpAnyH_done (by kernel_rfl) ?_ _
                        go_wp2_with fail
                        go_meet
                        exact HF.out.2
                      exact AllReadyH.nil
                    exact AllReadyH.nil
                  refine AllReadyH.cons (o := { dst := some 77, op := Op.call { callee := Callee.value (Operand.func 54), args := #[Operand.tmp 75, Operand.tmp 76], argTypes := #[109, 30] }, type := 22, pos := "accept_packet.go:66", after := #[{ on := 35, ground := Ground.data }, { on := 36, ground := Ground.data }, { on := 34, ground := Ground.chain }], guard := none }) rfl (fun K' hK => ?_) ?_
                  ·
                    go_simp
                    go_at_call 54; go_must (refine (U0 _ (H.out.gr hG)).out.mono ?_); rintro e q107 ⟨rfl, hg⟩
                    have hG := hG.trans hg
                    have hz := hg.heap hz
                    go_wp2_with fail
                    clear hg
                    refine hK.out _ _ ⟨hG.cell k4, hG.cell k5, hG.cell k22, hG.cell k23⟩ (fun hHeld => ?_)
                    clear hK K'
                    try simp only [List.setIfInBounds_toArray, List.set_cons_zero, List.set_cons_succ]
                    refine wpAnyH_take (i := 38) (oi := { dst := some 78, op := Op.convert 22 23 (Operand.tmp 77), type := 23, pos := "accept_packet.go:45", after := #[{ on := 37, ground := Ground.data }], guard := none }) (v := ?_) rfl (by kernel_rfl) (by kernel_rfl) (by kernel_rfl) (fun _ _ _ h => h) (Or.inl ⟨by rfl, ?_⟩) (by assumption) ?_
                    rotate_left
                    · (intro w hSw; (try dsimp only at hSw); go_simp; try with_reducible rfl)
                    try simp only [Act.put, List.setIfInBounds_toArray, List.set_cons_zero, List.set_cons_succ]
                    refine wpAnyH_ready (rs := [30]) (by kernel_rfl) (by simp) ?_
                    refine AllReadyH.cons (o := { dst := some 70, op := Op.box 93 (Operand.tmp 69), type := 58, pos := "accept_packet.go:45", after := #[{ on := 29, ground := Ground.data }], guard := none }) rfl (fun K' hK => ?_) ?_
                    ·
                      have hk := heap_alloc_new q107 (.cells #[.slice none 0 0, .string ⟨#[]⟩, .int .u16 V8, .int .u16 0, .int .u16 0, .int .u16 V10, .int .u16 0, .int .u16 V16, .string ⟨#[]⟩, .bool false, .int .u8 A0, .int .u8 A1, .int .u32 V12, .int .u32 V14, .bool false, .bool false, .bool false, .bool false] 93)
                      have hbK := hG.size
                      have hne := Nat.ne_of_lt (lt_of_some hz)
                      have hz := ((Gr.refl q107).alloc (.cells #[.slice none 0 0, .string ⟨#[]⟩, .int .u16 V8, .int .u16 0, .int .u16 0, .int .u16 V10, .int .u16 0, .int .u16 V16, .string ⟨#[]⟩, .bool false, .int .u8 A0, .int .u8 A1, .int .u32 V12, .int .u32 V14, .bool false, .bool false, .bool false, .bool false] 93)).heap hz
                      have hG := hG.alloc (.cells #[.slice none 0 0, .string ⟨#[]⟩, .int .u16 V8, .int .u16 0, .int .u16 0, .int .u16 V10, .int .u16 0, .int .u16 V16, .string ⟨#[]⟩, .bool false, .int .u8 A0, .int .u8 A1, .int .u32 V12, .int .u32 V14, .bool false, .bool false, .bool false, .bool false] 93)
                      go_simp
                      generalize q107.heap.size = K at *
                      generalize hcc : q107.alloc (.cells #[.slice none 0 0, .string ⟨#[]⟩, .int .u16 V8, .int .u16 0, .int .u16 0, .int .u16 V10, .int .u16 0, .int .u16 V16, .string ⟨#[]⟩, .bool false, .int .u8 A0, .int .u8 A1, .int .u32 V12, .int .u32 V14, .bool false, .bool false, .bool false, .bool false] 93) = q108 at *
                      clear hcc
                      refine hK.out _ _ ⟨hG.cell k4, hG.cell k5, hG.cell k22, hG.cell k23⟩ (fun hHeld => ?_)
                      clear hK K'
                      try simp only [List.setIfInBounds_toArray, List.set_cons_zero, List.set_cons_succ]
                      refine wpAnyH_take (i := 45) (oi := { dst := some 85, op := Op.build 69 #[(4, Operand.tmp 70), (0, Operand.tmp 74), (1, Operand.tmp 78), (2, Operand.tmp 81), (3, Operand.tmp 84)], type := 69, pos := "accept_packet.go:45", after := #[{ on := 30, ground := Ground.data }, { on := 34, ground := Ground.data }, { on := 38, ground := Ground.data }, { on := 41, ground := Ground.data }, { on := 44, ground := Ground.data }], guard := none }) (v := ?_) rfl (by kernel_rfl) (by kernel_rfl) (by kernel_rfl) (fun _ _ _ h => h) (Or.inl ⟨by rfl, ?_⟩) (by assumption) ?_
                      rotate_left
                      · (intro w hSw; (try dsimp only at hSw); go_simp; try with_reducible rfl)
                      try simp only [Act.put, List.setIfInBounds_toArray, List.set_cons_zero, List.set_cons_succ]
                      refine wpAnyH_take (i := 46) (oi := { dst := some 86, op := Op.build 91 #[(0, Operand.tmp 85)], type := 91, pos := "accept_packet.go:45", after := #[{ on := 45, ground := Ground.data }], guard := none }) (v := ?_) rfl (by kernel_rfl) (by kernel_rfl) (by kernel_rfl) (fun _ _ _ h => h) (Or.inl ⟨by rfl, ?_⟩) (by assumption) ?_
                      rotate_left
                      · (intro w hSw; (try dsimp only at hSw); go_simp; try with_reducible rfl)
                      try simp only [Act.put, List.setIfInBounds_toArray, List.set_cons_zero, List.set_cons_succ]
                      refine wpAnyH_ready (rs := [48]) (by kernel_rfl) (by simp) ?_
                      refine AllReadyH.cons (o := accStore) rfl (fun K' hK => ?_) ?_
                      ·
                        dsimp only [accStore]
                        obtain ⟨z0, z1, z2, z3, z4, z5, y0, y1, y2, y3, y4, y5⟩ := acc_cells hz
                        have HF := Lib.hid (acc_store (D : Nat) V0 TY FL hz hk (by omega) hbJ hbK hG)
                        have hG := HF.out.1
                        go_simp
                        refine hK.out _ _ ⟨hG.cell k4, hG.cell k5, hG.cell k22, hG.cell k23⟩ (fun hHeld => ?_)
                        clear hK K'
                        try simp only [List.setIfInBounds_toArray, List.set_cons_zero, List.set_cons_succ]
                        refine wpAnyH_done (by kernel_rfl) ?_ _
                        go_wp2_with fail
                        go_meet
                        exact HF.out.2
                      exact AllReadyH.nil
                    exact AllReadyH.nil
                  exact AllReadyH.nil
                exact AllReadyH.nil
              exact AllReadyH.nil
            exact AllReadyH.nil
          exact AllReadyH.nil
        exact AllReadyH.nil
      exact AllReadyH.nil
    refine AllReadyH.cons (o := { dst := some 6, op := Op.alloc 91, type := 0, pos := "accept_packet.go:45", after := #[], guard := none }) rfl (fun K' hK => ?_) ?_
    ·
      have hz := heap_alloc_new c0 (.cells #[.int .u16 0, .int .u32 0, .int .u8 0, .int .u8 0, .pointer none, .slice none 0 0] 91)
      have hbJ := hG.size
      have hG := hG.alloc (.cells #[.int .u16 0, .int .u32 0, .int .u8 0, .int .u8 0, .pointer none, .slice none 0 0] 91)
      go_simp
      generalize c0.heap.size = J at *
      generalize hcc : c0.alloc (.cells #[.int .u16 0, .int .u32 0, .int .u8 0, .int .u8 0, .pointer none, .slice none 0 0] 91) = q110 at *
      clear hcc
      refine hK.out _ _ ⟨hG.cell k4, hG.cell k5, hG.cell k22, hG.cell k23⟩ (fun hHeld => ?_)
      clear hK K'
      try simp only [List.setIfInBounds_toArray, List.set_cons_zero, List.set_cons_succ]
      refine wpAnyH_ready (rs := [3]) (by kernel_rfl) (by simp) ?_
      refine AllReadyH.cons (o := { dst := some 43, op := Op.call { callee := Callee.value (Operand.func 54), args := #[Operand.tmp 40, Operand.tmp 42], argTypes := #[109, 30] }, type := 22, pos := "accept_packet.go:49", after := #[{ on := 0, ground := Ground.data }, { on := 2, ground := Ground.data }], guard := none }) rfl (fun K' hK => ?_) ?_
      ·
        go_simp
        go_at_call 54; go_must (refine (U8 _ (H.out.gr hG)).out.mono ?_); rintro e q111 ⟨rfl, hg⟩
        have hG := hG.trans hg
        have hz := hg.heap hz
        go_wp2_with fail
        clear hg
        refine hK.out _ _ ⟨hG.cell k4, hG.cell k5, hG.cell k22, hG.cell k23⟩ (fun hHeld => ?_)
        clear hK K'
        try simp only [List.setIfInBounds_toArray, List.set_cons_zero, List.set_cons_succ]
        refine wpAnyH_ready (rs := [7]) (by kernel_rfl) (by simp) ?_
        refine AllReadyH.cons (o := { dst := some 47, op := Op.call { callee := Callee.value (Operand.func 54), args := #[Operand.tmp 44, Operand.tmp 46], argTypes := #[109, 30] }, type := 22, pos := "accept_packet.go:52", after := #[{ on := 4, ground := Ground.data }, { on := 6, ground := Ground.data }, { on := 3, ground := Ground.chain }], guard := none }) rfl (fun K' hK => ?_) ?_
        ·
          go_simp
          go_at_call 54; go_must (refine (U10 _ (H.out.gr hG)).out.mono ?_); rintro e q112 ⟨rfl, hg⟩
          have hG := hG.trans hg
          have hz := hg.heap hz
          go_wp2_with fail
          clear hg
          refine hK.out _ _ ⟨hG.cell k4, hG.cell k5, hG.cell k22, hG.cell k23⟩ (fun hHeld => ?_)
          clear hK K'
          try simp only [List.setIfInBounds_toArray, List.set_cons_zero, List.set_cons_succ]
          refine wpAnyH_ready (rs := [11]) (by kernel_rfl) (by simp) ?_
          refine AllReadyH.cons (o := { dst := some 51, op := Op.call { callee := Callee.value (Operand.func 54), args := #[Operand.tmp 48, Operand.tmp 50], argTypes := #[109, 30] }, type := 22, pos := "accept_packet.go:54", after := #[{ on := 8, ground := Ground.data }, { on := 10, ground := Ground.data }, { on := 7, ground := Ground.chain }], guard := none }) rfl (fun K' hK => ?_) ?_
          ·
            go_simp
            go_at_call 54; go_must (refine (U16 _ (H.out.gr hG)).out.mono ?_); rintro e q113 ⟨rfl, hg⟩
            have hG := hG.trans hg
            have hz := hg.heap hz
            go_wp2_with fail
            clear hg
            refine hK.out _ _ ⟨hG.cell k4, hG.cell k5, hG.cell k22, hG.cell k23⟩ (fun hHeld => ?_)
            clear hK K'
            try simp only [List.setIfInBounds_toArray, List.set_cons_zero, List.set_cons_succ]
            refine wpAnyH_ready (rs := [22]) (by kernel_rfl) (by simp) ?_
            refine AllReadyH.cons (o := { dst := some 62, op := Op.call { callee := Callee.value (Operand.func 54), args := #[Operand.tmp 59, Operand.tmp 61], argTypes := #[109, 30] }, type := 22, pos := "accept_packet.go:58", after := #[{ on := 19, ground := Ground.data }, { on := 21, ground := Ground.data }, { on := 11, ground := Ground.chain }], guard := none }) rfl (fun K' hK => ?_) ?_
            ·
              go_simp
              go_at_call 54; go_must (refine (U12 _ (H.out.gr hG)).out.mono ?_); rintro e q114 ⟨rfl, hg⟩
              have hG := hG.trans hg
              have hz := hg.heap hz
              go_wp2_with fail
              clear hg
              refine hK.out _ _ ⟨hG.cell k4, hG.cell k5, hG.cell k22, hG.cell k23⟩ (fun hHeld => ?_)
              clear hK K'
              try simp only [List.setIfInBounds_toArray, List.set_cons_zero, List.set_cons_succ]
              refine wpAnyH_take (i := 23) (oi := { dst := some 63, op := Op.convert 22 23 (Operand.tmp 62), type := 23, pos := "accept_packet.go:45", after := #[{ on := 22, ground := Ground.data }], guard := none }) (v := ?_) rfl (by kernel_rfl) (by kernel_rfl) (by kernel_rfl) (fun _ _ _ h => h) (Or.inl ⟨by rfl, ?_⟩) (by assumption) ?_
              rotate_left
              · (intro w hSw; (try dsimp only at hSw); go_simp; try with_reducible rfl)
              try simp only [Act.put, List.setIfInBounds_toArray, List.set_cons_zero, List.set_cons_succ]
              refine wpAnyH_ready (rs := [27]) (by kernel_rfl) (by simp) ?_
              refine AllReadyH.cons (o := { dst := some 67, op := Op.call { callee := Callee.value (Operand.func 54), args := #[Operand.tmp 64, Operand.tmp 66], argTypes := #[109, 30] }, type := 22, pos := "accept_packet.go:59", after := #[{ on := 24, ground := Ground.data }, { on := 26, ground := Ground.data }, { on := 22, ground := Ground.chain }], guard := none }) rfl (fun K' hK => ?_) ?_
              ·
                go_simp
                go_at_call 54; go_must (refine (U14 _ (H.out.gr hG)).out.mono ?_); rintro e q115 ⟨rfl, hg⟩
                have hG := hG.trans hg
                have hz := hg.heap hz
                go_wp2_with fail
                clear hg
                refine hK.out _ _ ⟨hG.cell k4, hG.cell k5, hG.cell k22, hG.cell k23⟩ (fun hHeld => ?_)
                clear hK K'
                try simp only [List.setIfInBounds_toArray, List.set_cons_zero, List.set_cons_succ]
                refine wpAnyH_take (i := 28) (oi := { dst := some 68, op := Op.convert 22 23 (Operand.tmp 67), type := 23, pos := "accept_packet.go:45", after := #[{ on := 27, ground := Ground.data }], guard := none }) (v := ?_) rfl (by kernel_rfl) (by kernel_rfl) (by kernel_rfl) (fun _ _ _ h => h) (Or.inl ⟨by rfl, ?_⟩) (by assumption) ?_
                rotate_left
                · (intro w hSw; (try dsimp only at hSw); go_simp; try with_reducible rfl)
                try simp only [Act.put, List.setIfInBounds_toArray, List.set_cons_zero, List.set_cons_succ]
                refine wpAnyH_take (i := 29) (oi := { dst := some 69, op := Op.build 93 #[(0, Operand.const (Value.slice none 0 0)), (2, Operand.tmp 43), (3, Operand.const (Value.int IntKind.u16 0)), (4, Operand.const (Value.int IntKind.u16 0)), (5, Operand.tmp 47), (6, Operand.const (Value.int IntKind.u16 0)), (7, Operand.tmp 51), (8, Operand.tmp 52), (10, Operand.tmp 55), (11, Operand.tmp 58), (12, Operand.tmp 63), (13, Operand.tmp 68), (14, Operand.const (Value.bool false)), (15, Operand.const (Value.bool false)), (16, Operand.const (Value.bool false)), (17, Operand.const (Value.bool false))], type := 93, pos := "accept_packet.go:45", after := #[{ on := 3, ground := Ground.data }, { on := 7, ground := Ground.data }, { on := 11, ground := Ground.data }, { on := 12, ground := Ground.data }, { on := 15, ground := Ground.data }, { on := 18, ground := Ground.data }, { on := 23, ground := Ground.data }, { on := 28, ground := Ground.data }], guard := none }) (v := ?_) rfl (by kernel_rfl) (by kernel_rfl) (by kernel_rfl) (fun _ _ _ h => h) (Or.inl ⟨by rfl, ?_⟩) (by assumption) ?_
                rotate_left
                · (intro w hSw; (try dsimp only at hSw); go_simp; try with_reducible rfl)
                try simp only [Act.put, List.setIfInBounds_toArray, List.set_cons_zero, List.set_cons_succ]
                refine wpAnyH_ready (rs := [30, 34]) (by kernel_rfl) (by simp) ?_
                refine AllReadyH.cons (o := { dst := some 70, op := Op.box 93 (Operand.tmp 69), type := 58, pos := "accept_packet.go:45", after := #[{ on := 29, ground := Ground.data }], guard := none }) rfl (fun K' hK => ?_) ?_
                ·
                  have hk := heap_alloc_new q115 (.cells #[.slice none 0 0, .string ⟨#[]⟩, .int .u16 V8, .int .u16 0, .int .u16 0, .int .u16 V10, .int .u16 0, .int .u16 V16, .string ⟨#[]⟩, .bool false, .int .u8 A0, .int .u8 A1, .int .u32 V12, .int .u32 V14, .bool false, .bool false, .bool false, .bool false] 93)
                  have hbK := hG.size
                  have hne := Nat.ne_of_lt (lt_of_some hz)
                  have hz := ((Gr.refl q115).alloc (.cells #[.slice none 0 0, .string ⟨#[]⟩, .int .u16 V8, .int .u16 0, .int .u16 0, .int .u16 V10, .int .u16 0, .int .u16 V16, .string ⟨#[]⟩, .bool false, .int .u8 A0, .int .u8 A1, .int .u32 V12, .int .u32 V14, .bool false, .bool false, .bool false, .bool false] 93)).heap hz
                  have hG := hG.alloc (.cells #[.slice none 0 0, .string ⟨#[]⟩, .int .u16 V8, .int .u16 0, .int .u16 0, .int .u16 V10, .int .u16 0, .int .u16 V16, .string ⟨#[]⟩, .bool false, .int .u8 A0, .int .u8 A1, .int .u32 V12, .int .u32 V14, .bool false, .bool false, .bool false, .bool false] 93)
                  go_simp
                  generalize q115.heap.size = K at *
                  generalize hcc : q115.alloc (.cells #[.slice none 0 0, .string ⟨#[]⟩, .int .u16 V8, .int .u16 0, .int .u16 0, .int .u16 V10, .int .u16 0, .int .u16 V16, .string ⟨#[]⟩, .bool false, .int .u8 A0, .int .u8 A1, .int .u32 V12, .int .u32 V14, .bool false, .bool false, .bool false, .bool false] 93) = q116 at *
                  clear hcc
                  refine hK.out _ _ ⟨hG.cell k4, hG.cell k5, hG.cell k22, hG.cell k23⟩ (fun hHeld => ?_)
                  clear hK K'
                  try simp only [List.setIfInBounds_toArray, List.set_cons_zero, List.set_cons_succ]
                  refine wpAnyH_ready (rs := [34]) (by kernel_rfl) (by simp) ?_
                  refine AllReadyH.cons (o := { dst := some 74, op := Op.call { callee := Callee.value (Operand.func 54), args := #[Operand.tmp 71, Operand.tmp 73], argTypes := #[109, 30] }, type := 22, pos := "accept_packet.go:65", after := #[{ on := 31, ground := Ground.data }, { on := 33, ground := Ground.data }, { on := 27, ground := Ground.chain }], guard := none }) rfl (fun K' hK => ?_) ?_
                  ·
                    go_simp
                    go_at_call 54; go_must (refine (U20 _ (H.out.gr hG)).out.mono ?_); rintro e q117 ⟨rfl, hg⟩
                    have hG := hG.trans hg
                    have hz := hg.heap hz
                    have hk := hg.heap hk
                    go_wp2_with fail
                    clear hg
                    refine hK.out _ _ ⟨hG.cell k4, hG.cell k5, hG.cell k22, hG.cell k23⟩ (fun hHeld => ?_)
                    clear hK K'
                    try simp only [List.setIfInBounds_toArray, List.set_cons_zero, List.set_cons_succ]
                    refine wpAnyH_ready (rs := [37]) (by kernel_rfl) (by simp) ?_
                    refine AllReadyH.cons (o := { dst := some 77, op := Op.call { callee := Callee.value (Operand.func 54), args := #[Operand.tmp 75, Operand.tmp 76], argTypes := #[109, 30] }, type := 22, pos := "accept_packet.go:66", after := #[{ on := 35, ground := Ground.data }, { on := 36, ground := Ground.data }, { on := 34, ground := Ground.chain }], guard := none }) rfl (fun K' hK => ?_) ?_
                    ·
                      go_simp
                      go_at_call 54; go_must (refine (U0 _ (H.out.gr hG)).out.mono ?_); rintro e q118 ⟨rfl, hg⟩
                      have hG := hG.trans hg
                      have hz := hg.heap hz
                      have hk := hg.heap hk
                      go_wp2_with fail
                      clear hg
                      refine hK.out _ _ ⟨hG.cell k4, hG.cell k5, hG.cell k22, hG.cell k23⟩ (fun hHeld => ?_)
                      clear hK K'
                      try simp only [List.setIfInBounds_toArray, List.set_cons_zero, List.set_cons_succ]
                      refine wpAnyH_take (i := 38) (oi := { dst := some 78, op := Op.convert 22 23 (Operand.tmp 77), type := 23, pos := "accept_packet.go:45", after := #[{ on := 37, ground := Ground.data }], guard := none }) (v := ?_) rfl (by kernel_rfl) (by kernel_rfl) (by kernel_rfl) (fun _ _ _ h => h) (Or.inl ⟨by rfl, ?_⟩) (by assumption) ?_
                      rotate_left
                      · (intro w hSw; (try dsimp only at hSw); go_simp; try with_reducible rfl)
                      try simp only [Act.put, List.setIfInBounds_toArray, List.set_cons_zero, List.set_cons_succ]
                      refine wpAnyH_take (i := 45) (oi := { dst := some 85, op := Op.build 69 #[(4, Operand.tmp 70), (0, Operand.tmp 74), (1, Operand.tmp 78), (2, Operand.tmp 81), (3, Operand.tmp 84)], type := 69, pos := "accept_packet.go:45", after := #[{ on := 30, ground := Ground.data }, { on := 34, ground := Ground.data }, { on := 38, ground := Ground.data }, { on := 41, ground := Ground.data }, { on := 44, ground := Ground.data }], guard := none }) (v := ?_) rfl (by kernel_rfl) (by kernel_rfl) (by kernel_rfl) (fun _ _ _ h => h) (Or.inl ⟨by rfl, ?_⟩) (by assumption) ?_
                      rotate_left
                      · (intro w hSw; (try dsimp only at hSw); go_simp; try with_reducible rfl)
                      try simp only [Act.put, List.setIfInBounds_toArray, List.set_cons_zero, List.set_cons_succ]
                      refine wpAnyH_take (i := 46) (oi := { dst := some 86, op := Op.build 91 #[(0, Operand.tmp 85)], type := 91, pos := "accept_packet.go:45", after := #[{ on := 45, ground := Ground.data }], guard := none }) (v := ?_) rfl (by kernel_rfl) (by kernel_rfl) (by kernel_rfl) (fun _ _ _ h => h) (Or.inl ⟨by rfl, ?_⟩) (by assumption) ?_
                      rotate_left
                      · (intro w hSw; (try dsimp only at hSw); go_simp; try with_reducible rfl)
                      try simp only [Act.put, List.setIfInBounds_toArray, List.set_cons_zero, List.set_cons_succ]
                      refine wpAnyH_ready (rs := [48]) (by kernel_rfl) (by simp) ?_
                      refine AllReadyH.cons (o := accStore) rfl (fun K' hK => ?_) ?_
                      ·
                        dsimp only [accStore]
                        obtain ⟨z0, z1, z2, z3, z4, z5, y0, y1, y2, y3, y4, y5⟩ := acc_cells hz
                        have HF := Lib.hid (acc_store (D : Nat) V0 TY FL hz hk (by omega) hbJ hbK hG)
                        have hG := HF.out.1
                        go_simp
                        refine hK.out _ _ ⟨hG.cell k4, hG.cell k5, hG.cell k22, hG.cell k23⟩ (fun hHeld => ?_)
                        clear hK K'
                        try simp only [List.setIfInBounds_toArray, List.set_cons_zero, List.set_cons_succ]
                        refine wpAnyH_done (by kernel_rfl) ?_ _
                        go_wp2_with fail
                        go_meet
                        exact HF.out.2
                      exact AllReadyH.nil
                    exact AllReadyH.nil
                  exact AllReadyH.nil
                refine AllReadyH.cons (o := { dst := some 74, op := Op.call { callee := Callee.value (Operand.func 54), args := #[Operand.tmp 71, Operand.tmp 73], argTypes := #[109, 30] }, type := 22, pos := "accept_packet.go:65", after := #[{ on := 31, ground := Ground.data }, { on := 33, ground := Ground.data }, { on := 27, ground := Ground.chain }], guard := none }) rfl (fun K' hK => ?_) ?_
                ·
                  go_simp
                  go_at_call 54; go_must (refine (U20 _ (H.out.gr hG)).out.mono ?_); rintro e q120 ⟨rfl, hg⟩
                  have hG := hG.trans hg
                  have hz := hg.heap hz
                  go_wp2_with fail
                  clear hg
                  refine hK.out _ _ ⟨hG.cell k4, hG.cell k5, hG.cell k22, hG.cell k23⟩ (fun hHeld => ?_)
                  clear hK K'
                  try simp only [List.setIfInBounds_toArray, List.set_cons_zero, List.set_cons_succ]
                  refine wpAnyH_ready (rs := [30, 37]) (by kernel_rfl) (by simp) ?_
                  refine AllReadyH.cons (o := { dst := some 70, op := Op.box 93 (Operand.tmp 69), type := 58, pos := "accept_packet.go:45", after := #[{ on := 29, ground := Ground.data }], guard := none }) rfl (fun K' hK => ?_) ?_
                  ·
                    have hk := heap_alloc_new q120 (.cells #[.slice none 0 0, .string ⟨#[]⟩, .int .u16 V8, .int .u16 0, .int .u16 0, .int .u16 V10, .int .u16 0, .int .u16 V16, .string ⟨#[]⟩, .bool false, .int .u8 A0, .int .u8 A1, .int .u32 V12, .int .u32 V14, .bool false, .bool false, .bool false, .bool false] 93)
                    have hbK := hG.size
                    have hne := Nat.ne_of_lt (lt_of_some hz)
                    have hz := ((Gr.refl q120).alloc (.cells #[.slice none 0 0, .string ⟨#[]⟩, .int .u16 V8, .int .u16 0, .int .u16 0, .int .u16 V10, .int .u16 0, .int .u16 V16, .string ⟨#[]⟩, .bool false, .int .u8 A0, .int .u8 A1, .int .u32 V12, .int .u32 V14, .bool false, .bool false, .bool false, .bool false] 93)).heap hz
                    have hG := hG.alloc (.cells #[.slice none 0 0, .string ⟨#[]⟩, .int .u16 V8, .int .u16 0, .int .u16 0, .int .u16 V10, .int .u16 0, .int .u16 V16, .string ⟨#[]⟩, .bool false, .int .u8 A0, .int .u8 A1, .int .u32 V12, .int .u32 V14, .bool false, .bool false, .bool false, .bool false] 93)
                    go_simp
                    generalize q120.heap.size = K at *
                    generalize hcc : q120.alloc (.cells #[.slice none 0 0, .string ⟨#[]⟩, .int .u16 V8, .int .u16 0, .int .u16 0, .int .u16 V10, .int .u16 0, .int .u16 V16, .string ⟨#[]⟩, .bool false, .int .u8 A0, .int .u8 A1, .int .u32 V12, .int .u32 V14, .bool false, .bool false, .bool false, .bool false] 93) = q121 at *
                    clear hcc
                    refine hK.out _ _ ⟨hG.cell k4, hG.cell k5, hG.cell k22, hG.cell k23⟩ (fun hHeld => ?_)
                    clear hK K'
                    try simp only [List.setIfInBounds_toArray, List.set_cons_zero, List.set_cons_succ]
                    refine wpAnyH_ready (rs := [37]) (by kernel_rfl) (by simp) ?_
                    refine AllReadyH.cons (o := { dst := some 77, op := Op.call { callee := Callee.value (Operand.func 54), args := #[Operand.tmp 75, Operand.tmp 76], argTypes := #[109, 30] }, type := 22, pos := "accept_packet.go:66", after := #[{ on := 35, ground := Ground.data }, { on := 36, ground := Ground.data }, { on := 34, ground := Ground.chain }], guard := none }) rfl (fun K' hK => ?_) ?_
                    ·
                      go_simp
                      go_at_call 54; go_must (refine (U0 _ (H.out.gr hG)).out.mono ?_); rintro e q122 ⟨rfl, hg⟩
                      have hG := hG.trans hg
                      have hz := hg.heap hz
                      have hk := hg.heap hk
                      go_wp2_with fail
                      clear hg
                      refine hK.out _ _ ⟨hG.cell k4, hG.cell k5, hG.cell k22, hG.cell k23⟩ (fun hHeld => ?_)
                      clear hK K'
                      try simp only [List.setIfInBounds_toArray, List.set_cons_zero, List.set_cons_succ]
                      refine wpAnyH_take (i := 38) (oi := { dst := some 78, op := Op.convert 22 23 (Operand.tmp 77), type := 23, pos := "accept_packet.go:45", after := #[{ on := 37, ground := Ground.data }], guard := none }) (v := ?_) rfl (by kernel_rfl) (by kernel_rfl) (by kernel_rfl) (fun _ _ _ h => h) (Or.inl ⟨by rfl, ?_⟩) (by assumption) ?_
                      rotate_left
                      · (intro w hSw; (try dsimp only at hSw); go_simp; try with_reducible rfl)
                      try simp only [Act.put, List.setIfInBounds_toArray, List.set_cons_zero, List.set_cons_succ]
                      refine wpAnyH_take (i := 45) (oi := { dst := some 85, op := Op.build 69 #[(4, Operand.tmp 70), (0, Operand.tmp 74), (1, Operand.tmp 78), (2, Operand.tmp 81), (3, Operand.tmp 84)], type := 69, pos := "accept_packet.go:45", after := #[{ on := 30, ground := Ground.data }, { on := 34, ground := Ground.data }, { on := 38, ground := Ground.data }, { on := 41, ground := Ground.data }, { on := 44, ground := Ground.data }], guard := none }) (v := ?_) rfl (by kernel_rfl) (by kernel_rfl) (by kernel_rfl) (fun _ _ _ h => h) (Or.inl ⟨by rfl, ?_⟩) (by assumption) ?_
                      rotate_left
                      · (intro w hSw; (try dsimp only at hSw); go_simp; try with_reducible rfl)
                      try simp only [Act.put, List.setIfInBounds_toArray, List.set_cons_zero, List.set_cons_succ]
                      refine wpAnyH_take (i := 46) (oi := { dst := some 86, op := Op.build 91 #[(0, Operand.tmp 85)], type := 91, pos := "accept_packet.go:45", after := #[{ on := 45, ground := Ground.data }], guard := none }) (v := ?_) rfl (by kernel_rfl) (by kernel_rfl) (by kernel_rfl) (fun _ _ _ h => h) (Or.inl ⟨by rfl, ?_⟩) (by assumption) ?_
                      rotate_left
                      · (intro w hSw; (try dsimp only at hSw); go_simp; try with_reducible rfl)
                      try simp only [Act.put, List.setIfInBounds_toArray, List.set_cons_zero, List.set_cons_succ]
                      refine wpAnyH_ready (rs := [48]) (by kernel_rfl) (by simp) ?_
                      refine AllReadyH.cons (o := accStore) rfl (fun K' hK => ?_) ?_
                      ·
                        dsimp only [accStore]
                        obtain ⟨z0, z1, z2, z3, z4, z5, y0, y1, y2, y3, y4, y5⟩ := acc_cells hz
                        have HF := Lib.hid (acc_store (D : Nat) V0 TY FL hz hk (by omega) hbJ hbK hG)
                        have hG := HF.out.1
                        go_simp
                        refine hK.out _ _ ⟨hG.cell k4, hG.cell k5, hG.cell k22, hG.cell k23⟩ (fun hHeld => ?_)
                        clear hK K'
                        try simp only [List.setIfInBounds_toArray, List.set_cons_zero, List.set_cons_succ]
                        refine wpAnyH_done (by kernel_rfl) ?_ _
                        go_wp2_with fail
                        go_meet
                        exact HF.out.2
                      exact AllReadyH.nil
                    exact AllReadyH.nil
                  refine AllReadyH.cons (o := { dst := some 77, op := Op.call { callee := Callee.value (Operand.func 54), args := #[Operand.tmp 75, Operand.tmp 76], argTypes := #[109, 30] }, type := 22, pos := "accept_packet.go:66", after := #[{ on := 35, ground := Ground.data }, { on := 36, ground := Ground.data }, { on := 34, ground := Ground.chain }], guard := none }) rfl (fun K' hK => ?_) ?_
                  ·
                    go_simp
                    go_at_call 54; go_must (refine (U0 _ (H.out.gr hG)).out.mono ?_); rintro e q124 ⟨rfl, hg⟩
                    have hG := hG.trans hg
                    have hz := hg.heap hz
                    go_wp2_with fail
                    clear hg
                    refine hK.out _ _ ⟨hG.cell k4, hG.cell k5, hG.cell k22, hG.cell k23⟩ (fun hHeld => ?_)
                    clear hK K'
                    try simp only [List.setIfInBounds_toArray, List.set_cons_zero, List.set_cons_succ]
                    refine wpAnyH_take (i := 38) (oi := { dst := some 78, op := Op.convert 22 23 (Operand.tmp 77), type := 23, pos := "accept_packet.go:45", after := #[{ on := 37, ground := Ground.data }], guard := none }) (v := ?_) rfl (by kernel_rfl) (by kernel_rfl) (by kernel_rfl) (fun _ _ _ h => h) (Or.inl ⟨by rfl, ?_⟩) (by assumption) ?_
                    rotate_left
                    · (intro w hSw; (try dsimp only at hSw); go_simp; try with_reducible rfl)
                    try simp only [Act.put, List.setIfInBounds_toArray, List.set_cons_zero, List.set_cons_succ]
                    refine wpAnyH_ready (rs := [30]) (by kernel_rfl) (by simp) ?_
                    refine AllReadyH.cons (o := { dst := some 70, op := Op.box 93 (Operand.tmp 69), type := 58, pos := "accept_packet.go:45", after := #[{ on := 29, ground := Ground.data }], guard := none }) rfl (fun K' hK => ?_) ?_
                    ·
                      have hk := heap_alloc_new q124 (.cells #[.slice none 0 0, .string ⟨#[]⟩, .int .u16 V8, .int .u16 0, .int .u16 0, .int .u16 V10, .int .u16 0, .int .u16 V16, .string ⟨#[]⟩, .bool false, .int .u8 A0, .int .u8 A1, .int .u32 V12, .int .u32 V14, .bool false, .bool false, .bool false, .bool false] 93)
                      have hbK := hG.size
                      have hne := Nat.ne_of_lt (lt_of_some hz)
                      have hz := ((Gr.refl q124).alloc (.cells #[.slice none 0 0, .string ⟨#[]⟩, .int .u16 V8, .int .u16 0, .int .u16 0, .int .u16 V10, .int .u16 0, .int .u16 V16, .string ⟨#[]⟩, .bool false, .int .u8 A0, .int .u8 A1, .int .u32 V12, .int .u32 V14, .bool false, .bool false, .bool false, .bool false] 93)).heap hz
                      have hG := hG.alloc (.cells #[.slice none 0 0, .string ⟨#[]⟩, .int .u16 V8, .int .u16 0, .int .u16 0, .int .u16 V10, .int .u16 0, .int .u16 V16, .string ⟨#[]⟩, .bool false, .int .u8 A0, .int .u8 A1, .int .u32 V12, .int .u32 V14, .bool false, .bool false, .bool false, .bool false] 93)
                      go_simp
                      generalize q124.heap.size = K at *
                      generalize hcc : q124.alloc (.cells #[.slice none 0 0, .string ⟨#[]⟩, .int .u16 V8, .int .u16 0, .int .u16 0, .int .u16 V10, .int .u16 0, .int .u16 V16, .string ⟨#[]⟩, .bool false, .int .u8 A0, .int .u8 A1, .int .u32 V12, .int .u32 V14, .bool false, .bool false, .bool false, .bool false] 93) = q125 at *
                      clear hcc
                      refine hK.out _ _ ⟨hG.cell k4, hG.cell k5, hG.cell k22, hG.cell k23⟩ (fun hHeld => ?_)
                      clear hK K'
                      try simp only [List.setIfInBounds_toArray, List.set_cons_zero, List.set_cons_succ]
                      refine wpAnyH_take (i := 45) (oi := { dst := some 85, op := Op.build 69 #[(4, Operand.tmp 70), (0, Operand.tmp 74), (1, Operand.tmp 78), (2, Operand.tmp 81), (3, Operand.tmp 84)], type := 69, pos := "accept_packet.go:45", after := #[{ on := 30, ground := Ground.data }, { on := 34, ground := Ground.data }, { on := 38, ground := Ground.data }, { on := 41, ground := Ground.data }, { on := 44, ground := Ground.data }], guard := none }) (v := ?_) rfl (by kernel_rfl) (by kernel_rfl) (by kernel_rfl) (fun _ _ _ h => h) (Or.inl ⟨by rfl, ?_⟩) (by assumption) ?_
                      rotate_left
                      · (intro w hSw; (try dsimp only at hSw); go_simp; try with_reducible rfl)
                      try simp only [Act.put, List.setIfInBounds_toArray, List.set_cons_zero, List.set_cons_succ]
                      refine wpAnyH_take (i := 46) (oi := { dst := some 86, op := Op.build 91 #[(0, Operand.tmp 85)], type := 91, pos := "accept_packet.go:45", after := #[{ on := 45, ground := Ground.data }], guard := none }) (v := ?_) rfl (by kernel_rfl) (by kernel_rfl) (by kernel_rfl) (fun _ _ _ h => h) (Or.inl ⟨by rfl, ?_⟩) (by assumption) ?_
                      rotate_left
                      · (intro w hSw; (try dsimp only at hSw); go_simp; try with_reducible rfl)
                      try simp only [Act.put, List.setIfInBounds_toArray, List.set_cons_zero, List.set_cons_succ]
                      refine wpAnyH_ready (rs := [48]) (by kernel_rfl) (by simp) ?_
                      refine AllReadyH.cons (o := accStore) rfl (fun K' hK => ?_) ?_
                      ·
                        dsimp only [accStore]
                        obtain ⟨z0, z1, z2, z3, z4, z5, y0, y1, y2, y3, y4, y5⟩ := acc_cells hz
                        have HF := Lib.hid (acc_store (D : Nat) V0 TY FL hz hk (by omega) hbJ hbK hG)
                        have hG := HF.out.1
                        go_simp
                        refine hK.out _ _ ⟨hG.cell k4, hG.cell k5, hG.cell k22, hG.cell k23⟩ (fun hHeld => ?_)
                        clear hK K'
                        try simp only [List.setIfInBounds_toArray, List.set_cons_zero, List.set_cons_succ]
                        refine wpAnyH_done (by kernel_rfl) ?_ _
                        go_wp2_with fail
                        go_meet
                        exact HF.out.2
                      exact AllReadyH.nil
                    exact AllReadyH.nil
                  exact AllReadyH.nil
                exact AllReadyH.nil
              exact AllReadyH.nil
            exact AllReadyH.nil
          exact AllReadyH.nil
        exact AllReadyH.nil
      exact AllReadyH.nil
    exact AllReadyH.nil
    -- END
  case rest =>
    obtain ⟨J, K, rfl, hJ, hK, hne, hbJ, hbK, hg⟩ := hcut
    clear U8 U10 U12 U14 U16 U20 U0 U28 U30 hg1 hg2 k4 k5 k22 k23
    have HG := Lib.hid hg
    have HJ := Lib.hid (blk_set hJ 5 (.slice (some ⟨b, oD, none⟩) (n - D) (c - D)))
    have HK := Lib.hid ((Below.heap_setCell wc (⟨J, 5, none⟩ : Addr) (.slice (some ⟨b, oD, none⟩) (n - D) (c - D)) K (fun e => hne e.symm)).trans hK)
    have HGJ := Lib.hid (hg.setCell (p := ⟨J, 5, none⟩) hbJ (.slice (some ⟨b, oD, none⟩) (n - D) (c - D)))
    simp at HJ
    have a0 := (blk_cell hJ 0).trans rfl
    have a5 := (blk_cell hJ 5).trans rfl
    have f5 := blk_free hJ 5
    clear hJ hK hg
    go_upto_region 10 with (fail)
    generalize wc.setCell ⟨J, 5, none⟩ (.slice (some ⟨b, oD, none⟩) (n - D) (c - D)) = X at *
    clear a0 a5 f5 hrun
    have H2 : Hid (AccTwo w J K D V0 TY FL V8 V10 V16 A0 A1 V12 V14 (.slice (some ⟨b, oD, none⟩) (n - D) (c - D)) X) := Lib.hid ⟨HJ.out, HK.out, HGJ.out⟩
    have p4 : X.cell? ⟨J, 4, none⟩ = some (.pointer (some ⟨K, 0, none⟩)) := (blk_cell HJ.out 4).trans rfl
    have p2 : X.cell? ⟨K, 2, none⟩ = some (.int .u16 V8) := (blk_cell HK.out 2).trans rfl
    clear HJ HK HGJ HG
    have HUS := Lib.hid (show unitOf V8 V32 V12 = unitOf V8 V32 V12 from rfl)
    obtain ⟨S, hS⟩ : ∃ S, unitOf V8 V32 V12 = S := ⟨_, rfl⟩
    obtain ⟨T, hT⟩ : ∃ T, unitOf V8 V36 V14 = T := ⟨_, rfl⟩
    rw [hS, hT]
    have HS := Lib.hid hS
    have HT := Lib.hid hT
    clear HUS hS hT
    go_upto_if 100 with (fail)
    go_cut [] from 100 to 119 (fun wd => AccTwo w J K D V0 TY FL V8 V10 V16 A0 A1 S T (.slice (some ⟨b, oD, none⟩) (n - D) (c - D)) wd)
    case first =>
      by_cases hv : 315 ≤ V8
      · have hv1 : unitOf V8 V32 V12 = V32 := if_pos hv
        have hv2 : unitOf V8 V36 V14 = V36 := if_pos hv
        rw [HS.out] at hv1
        rw [HT.out] at hv2
        subst hv1; subst hv2
        go_wp2_with fail
        go_region_held3 (fun w' => w'.cell? ⟨J, 4, none⟩ = some (.pointer (some ⟨K, 0, none⟩))) (first | go_keep | exact q4 | exact (blk_cell (H3.out.s hne hbK _).hJ 4).trans rfl)
          ((first | (go_at_call 59; go_must (refine (W32 _ (H.out.gr (H2.out.g.drew))).out.mono ?_); rintro e w3 ⟨rfl, hg3⟩; have H3 := Lib.hid (H2.out.gr (Gr.trans (Gr.drew (Gr.refl X)) hg3)); have q4 := (blk_cell H3.out.hJ 4).trans rfl; have q12 := (blk_cell H3.out.hK 12).trans rfl; have g12 := blk_free H3.out.hK 12)))
        go_wp2_with fail
        have H4 := Lib.hid (H3.out.s hne hbK S)
        generalize w3.setCell ⟨K, 12, none⟩ (.int .u32 S) = Y at *
        clear q4 q12 g12 hg3
        have r4 : Y.cell? ⟨J, 4, none⟩ = some (.pointer (some ⟨K, 0, none⟩)) := (blk_cell H4.out.hJ 4).trans rfl
        go_region_held3 (fun w' => w'.cell? ⟨J, 4, none⟩ = some (.pointer (some ⟨K, 0, none⟩))) (first | go_keep | exact q4 | exact (blk_cell (H5.out.t hne hbK _).hJ 4).trans rfl)
          ((first | (go_at_call 59; go_must (refine (W36 _ (H.out.gr (H4.out.g.drew))).out.mono ?_); rintro e w4 ⟨rfl, hg4⟩; have H5 := Lib.hid (H4.out.gr (Gr.trans (Gr.drew (Gr.refl Y)) hg4)); have q4 := (blk_cell H5.out.hJ 4).trans rfl; have q12 := (blk_cell H5.out.hK 13).trans rfl; have g12 := blk_free H5.out.hK 13)))
        go_wp2_with fail
        go_meet
        exact H5.out.t hne hbK T
      · have hv1 : unitOf V8 V32 V12 = V12 := if_neg hv
        have hv2 : unitOf V8 V36 V14 = V14 := if_neg hv
        rw [HS.out] at hv1
        rw [HT.out] at hv2
        subst hv1; subst hv2
        go_wp2_with fail
        go_meet
        exact H2.out
    case rest =>
      clear H2 p4 p2
      have H6 := Lib.hid hcut
      clear hcut
      have p0 := (blk_cell H6.out.hJ 3).trans rfl
      go_wp2_with fail
      clear p0
      have p4 : wc.cell? ⟨J, 4, none⟩ = some (.pointer (some ⟨K, 0, none⟩)) := (blk_cell H6.out.hJ 4).trans rfl
      have p12 : wc.cell? ⟨K, 12, none⟩ = some (.int .u32 S) := (blk_cell H6.out.hK 12).trans rfl
      have p13 : wc.cell? ⟨K, 13, none⟩ = some (.int .u32 T) := (blk_cell H6.out.hK 13).trans rfl
      go_region_held3 (fun w' => w'.cell? ⟨J, 4, none⟩ = some (.pointer (some ⟨K, 0, none⟩)) ∧ w'.cell? ⟨K, 12, none⟩ = some (.int .u32 S) ∧ w'.cell? ⟨K, 13, none⟩ = some (.int .u32 T)) (first | go_keep | exact ⟨p4, p12, p13⟩)
        (fail)
      go_upto_if 153 with (fail)
      clear p4 p12 p13
      go_cut [] from 153 to 164 (fun we => AccTwo w J K D V0 TY FL V8 V10 V16 A0 A1 (capOf S T) T (.slice (some ⟨b, oD, none⟩) (n - D) (c - D)) we)
      case first =>
        have p4 : wc.cell? ⟨J, 4, none⟩ = some (.pointer (some ⟨K, 0, none⟩)) := (blk_cell H6.out.hJ 4).trans rfl
        have p12 : wc.cell? ⟨K, 12, none⟩ = some (.int .u32 S) := (blk_cell H6.out.hK 12).trans rfl
        have p13 : wc.cell? ⟨K, 13, none⟩ = some (.int .u32 T) := (blk_cell H6.out.hK 13).trans rfl
        by_cases hlt : T < S
        · have hc1 : capOf S T = T := if_pos hlt
          have g12 : wc.frozen? ⟨K, 12, none⟩ = false := blk_free H6.out.hK 12
          have s4 : (wc.setCell ⟨K, 12, none⟩ (.int .u32 T)).cell? ⟨J, 4, none⟩ = some (.pointer (some ⟨K, 0, none⟩)) := (blk_cell (H6.out.s hne hbK T).hJ 4).trans rfl
          have s13 : (wc.setCell ⟨K, 12, none⟩ (.int .u32 T)).cell? ⟨K, 13, none⟩ = some (.int .u32 T) := (blk_cell (H6.out.s hne hbK T).hK 13).trans rfl
          go_wp2_with fail
          go_region_held3 (fun w' => w'.cell? ⟨J, 4, none⟩ = some (.pointer (some ⟨K, 0, none⟩)) ∧ w'.cell? ⟨K, 13, none⟩ = some (.int .u32 T)) (first | go_keep | exact ⟨p4, p13⟩ | exact ⟨s4, s13⟩ | exact ⟨(blk_cell ((H6.out.s hne hbK T).gr ((Gr.refl (wc.setCell ⟨K, 12, none⟩ (.int .u32 T))).drew.drew)).hJ 4).trans rfl, (blk_cell ((H6.out.s hne hbK T).gr ((Gr.refl (wc.setCell ⟨K, 12, none⟩ (.int .u32 T))).drew.drew)).hK 13).trans rfl⟩)
            (fail)
          go_wp2_with fail
          go_meet
          rw [hc1]
          first | exact (H6.out.s hne hbK T).gr ((Gr.refl (wc.setCell ⟨K, 12, none⟩ (.int .u32 T))).drew.drew) | exact (H6.out.gr ((Gr.refl wc).drew.drew)).s hne hbK T
        · have hc1 : capOf S T = S := if_neg hlt
          go_wp2_with fail
          go_meet
          rw [hc1]
          exact H6.out.gr ((Gr.refl wc).drew)
      case rest =>
        have H7 := Lib.hid hcut
        clear hcut H6
        have p5 : wc.cell? ⟨J, 5, none⟩ = some (.slice (some ⟨b, oD, none⟩) (n - D) (c - D)) := (blk_cell H7.out.hJ 5).trans rfl
        go_wp2_with fail
        go_region_held3 (fun w' => w'.cell? ⟨J, 5, none⟩ = some (.slice (some ⟨b, oD, none⟩) (n - D) (c - D))) (first | go_keep | exact q5)
          ((first | (go_at_call 54; go_must (refine (U18 _ (H.out.gr (H7.out.g.drew))).out.mono ?_); rintro e w5 ⟨rfl, hg5⟩; have H8 := Lib.hid (H7.out.gr (Gr.trans (Gr.drew (Gr.refl wc)) hg5)); have q5 : w5.cell? ⟨J, 5, none⟩ = some (.slice (some ⟨b, oD, none⟩) (n - D) (c - D)) := (blk_cell H8.out.hJ 5).trans rfl)))
        go_wp2_with fail
        rw [HS.out, HT.out]
        exact bodyPost_ret (v := .pointer (some ⟨J, 0, none⟩)) (by simp [results, Tryd.results49, go_sem]) rfl ⟨J, K, _, rfl, H8.out.hJ, H8.out.hK, HRB.out.gr H8.out.g, H8.out.g⟩
end Go.Proofs.YtoaajnhbcekglaaDoor
