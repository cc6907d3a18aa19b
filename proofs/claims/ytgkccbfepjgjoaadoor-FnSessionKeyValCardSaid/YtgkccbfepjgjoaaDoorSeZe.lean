/- What PutKeyVal's parts write: numbers, flags, CLRs of any length. -/
import Derived.Test.YtgkccbfepjgjoaaDoorSeZd
namespace Go.Proofs.YtgkccbfepjgjoaaDoor
open Go Go.RowKit

/-- The bytes of a compressed number below 65536. -/
def pkB (u : Nat) : List Int := if u = 0 then [0] else if u ≤ 255 then [1, (u : Int)] else [2, ((u / 256 : Nat) : Int), ((u % 256 : Nat) : Int)]
theorem pkB_len (u : Nat) : (pkB u).length ≤ 3 := by unfold pkB; (repeat' split) <;> simp
theorem row_two (u : Nat) (h1 : 256 ≤ u) (h2 : u < 65536) : numB true 8 u = row8 6 [((u / 256 : Nat) : Int), ((u % 256 : Nat) : Int)] := by
  simp [numB, row8, Lib.beBytes, Lib.leBytes, List.replicate]
  omega
theorem putLen (s : Nat) (big : Bool) (ch : Int) (xs : List Int) (u : Nat) (w : World) (hS : Sw w s big ch xs) (h1 : 1 ≤ u) (h2 : u < 65536) (hlim : xs.length ≤ 10000000000) :
    Calls Tryd.prog 43 #[.pointer (some ⟨s, 0, none⟩), .iface 3 (.int .i64 u), .int .u8 4, .bool true, .bool true] w (RetP w s big ch (xs ++ pkB u)) := by
  unfold pkB
  rw [if_neg (by omega)]
  split
  · exact putUint_pk_int s big ch xs u 7 (u : Int) [] w hS (by omega) (row_one u h1 (by omega)) (by omega) rfl (by omega) hlim
  · exact putUint_pk_int s big ch xs u 6 _ _ w hS (by omega) (row_two u (by omega) h2) (by omega) rfl (by omega) hlim
theorem putFlag (s : Nat) (big : Bool) (ch : Int) (xs : List Int) (u : Nat) (w : World) (hS : Sw w s big ch xs) (h2 : u < 256) (hlim : xs.length ≤ 10000000000) :
    Calls Tryd.prog 42 #[.pointer (some ⟨s, 0, none⟩), .iface 5 (.int .u8 u), .int .u8 4, .bool true, .bool true] w (RetP w s big ch (xs ++ pkB u)) := by
  unfold pkB
  split
  · rename_i h; subst h; exact putInt_zero_u8 s big ch xs w hS hlim
  · rw [if_pos (by omega)]
    exact putInt_pk_u8 s big ch xs u 7 (u : Int) [] w hS (by omega) (row_one u (by omega) (by omega)) (by omega) rfl (by omega) hlim
/-- The bytes of a CLR. -/
def clrB (big : Bool) (c : Nat) (l : List Int) : List Int := if l.length ≤ 252 then (l.length : Int) :: l else 254 :: (chunks c l.length l).flatMap (partB big) ++ [0]
theorem putClr_any (s : Nat) (big : Bool) (c : Nat) (xs l : List Int) (v : Value) (w : World) (hS : Sw w s big c xs) (hv : Rd w v l) (ha : Aside s w v) (hl2 : l.length ≤ 100000) (hc1 : 1 ≤ c) (hc2 : c ≤ 252) (hlim : xs.length ≤ 1000000000) :
    Calls Tryd.prog 41 #[.pointer (some ⟨s, 0, none⟩), v] w (RetP w s big c (xs ++ clrB big c l)) := by
  unfold clrB
  split
  · exact putClr_short s big c xs l v w hS hv ha (by omega) (by omega)
  · exact putClr_long s big c xs l v w hS hv ha (by omega) hl2 hc1 hc2 hlim
/-- The bytes of a DLC. -/
def dlcB (big : Bool) (c : Nat) (l : List Int) : List Int := if l = [] then [0] else pkB l.length ++ clrB big c l

end Go.Proofs.YtgkccbfepjgjoaaDoor
