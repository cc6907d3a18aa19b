/- A session's readers of numbers, by one word each: what is read, or none. -/
import Derived.Test.YtgkccbfepjgjoaaDoorSeD
namespace Go.Proofs.YtgkccbfepjgjoaaDoor
open Go Go.RowKit

/-- What a reader of a number gives: the number and what is left; or an error. -/
def RetO (w : World) (s : Nat) (big : Bool) (ch : Int) (E : Value) (o : Option (Int × List Int)) (e : Ending) (w' : World) : Prop :=
  match o with
  | some (z, r) => RetV w s big ch E (.int .i64 z) r e w'
  | none => RetNo w s big ch E (.int .i64 0) e w'
theorem RetO.cases {w : World} {s : Nat} {big : Bool} {ch : Int} {E : Value} {o : Option (Int × List Int)} {e : Ending} {w' : World} (h : RetO w s big ch E o e w') :
    (∃ z r, o = some (z, r) ∧ RetV w s big ch E (.int .i64 z) r e w') ∨ (o = none ∧ RetNo w s big ch E (.int .i64 0) e w') := by
  cases o with
  | none => exact .inr ⟨rfl, h⟩
  | some p => exact .inl ⟨p.1, p.2, rfl, h⟩

/-- A compressed number of the input. -/
def rdPk : List Int → Option (Int × List Int)
  | [] => none
  | b :: r => if (b % 128).toNat ≤ r.length then some (pkV b (r.take (b % 128).toNat), r.drop (b % 128).toNat) else none
/-- It is no longer than eight bytes. -/
def PkShort : List Int → Prop
  | [] => True
  | b :: _ => b % 128 ≤ 8
/-- A number of n bytes. -/
def rdNum (n : Nat) (be : Bool) (r : List Int) : Option (Int × List Int) := if n ≤ r.length then some (numV be (r.take n), r.drop n) else none

theorem wrap64_bd (n : Int) : -9223372036854775808 ≤ wrap64 n ∧ wrap64 n ≤ 9223372036854775807 := by unfold wrap64; omega
theorem numV_bd (be : Bool) (l : List Int) : -9223372036854775808 ≤ numV be l ∧ numV be l ≤ 9223372036854775807 := wrap64_bd _
theorem pkV_bd (b : Int) (l : List Int) : -9223372036854775808 ≤ pkV b l ∧ pkV b l ≤ 9223372036854775807 := by
  unfold pkV
  split
  · omega
  · split
    · exact wrap64_bd _
    · exact numV_bd _ _
theorem rdPk_bd {r r' : List Int} {z : Int} (h : rdPk r = some (z, r')) : -9223372036854775808 ≤ z ∧ z ≤ 9223372036854775807 := by
  cases r with
  | nil => cases h
  | cons b t =>
    simp only [rdPk] at h
    split at h
    · injection h with h
      injection h with h _
      subst h
      exact pkV_bd _ _
    · cases h
theorem rdNum_bd {n : Nat} {be : Bool} {r r' : List Int} {z : Int} (h : rdNum n be r = some (z, r')) : -9223372036854775808 ≤ z ∧ z ≤ 9223372036854775807 := by
  simp only [rdNum] at h
  split at h
  · injection h with h
    injection h with h _
    subst h
    exact numV_bd _ _
  · cases h

theorem int64_pk (s : Nat) (big : Bool) (ch : Int) (E : Value) (n : Int) (be : Bool) (r : List Int) (w : World) (h : Ss w s big ch E r) (hs : PkShort r) :
    Calls Tryd.prog 68 #[.pointer (some ⟨s, 0, none⟩), .int .i64 n, .bool true, .bool be] w (RetO w s big ch E (rdPk r)) := by
  cases r with
  | nil => exact int64_pk_no s big ch E n be w h
  | cons b t =>
    have hb := h.byt b (by simp)
    have hs : b % 128 ≤ 8 := hs
    obtain ⟨m, hm⟩ : ∃ m : Nat, b % 128 = (m : Int) := ⟨(b % 128).toNat, by omega⟩
    have hmt : (b % 128).toNat = m := by omega
    simp only [rdPk, hmt]
    by_cases h0 : m = 0
    · subst h0
      rw [if_pos (Nat.zero_le _), List.take_zero, List.drop_zero]
      have hp : pkV b [] = 0 := by unfold pkV; rw [if_pos (by omega)]
      rw [hp]
      by_cases hlo : b < 128
      · exact pk_zero_lo s big ch E n be b t w h hb.1 hlo (by omega)
      · exact pk_zero_hi s big ch E n be b t w h (by omega) (by omega) (by omega)
    · by_cases hr : m ≤ t.length
      · rw [if_pos hr]
        by_cases hlo : b < 128
        · have hp : pkV b (t.take m) = numV true (t.take m) := by unfold pkV; rw [if_neg (by omega), if_neg (by omega)]
          rw [hp]
          exact pk_ok_lo s big ch E n be b t w h hb.1 hlo m (by omega) (by omega) (by omega) hr
        · have hp : pkV b (t.take m) = wrap64 (-numV true (t.take m)) := by unfold pkV; rw [if_neg (by omega), if_pos (by omega)]
          rw [hp]
          exact pk_ok_hi s big ch E n be b t w h (by omega) (by omega) m (by omega) (by omega) (by omega) hr
      · rw [if_neg hr]
        by_cases hlo : b < 128
        · exact pk_short_lo s big ch E n be b t w h hb.1 hlo m (by omega) (by omega) (by omega)
        · exact pk_short_hi s big ch E n be b t w h (by omega) (by omega) m (by omega) (by omega) (by omega)

theorem int64_num (s : Nat) (big : Bool) (ch : Int) (E : Value) (n : Nat) (be : Bool) (r : List Int) (w : World) (h : Ss w s big ch E r) (h1 : 1 ≤ n) (h8 : n ≤ 8) :
    Calls Tryd.prog 68 #[.pointer (some ⟨s, 0, none⟩), .int .i64 n, .bool false, .bool be] w (RetO w s big ch E (rdNum n be r)) := by
  unfold rdNum
  by_cases hn : n ≤ r.length
  · rw [if_pos hn]
    cases be
    · exact int64_le s big ch E r n w h h1 h8 hn
    · exact int64_be s big ch E r n w h h1 h8 hn
  · rw [if_neg hn]
    exact int64_no s big ch E r n be w h h1 h8 (by omega)

theorem getInt (s : Nat) (big : Bool) (ch : Int) (E : Value) (n : Int) (co be : Bool) (o : Option (Int × List Int)) (w : World) (hE : ∃ T p, E = .iface T (.pointer (some p)))
    (ho : ∀ z r, o = some (z, r) → -9223372036854775808 ≤ z ∧ z ≤ 9223372036854775807)
    (h : Calls Tryd.prog 68 #[.pointer (some ⟨s, 0, none⟩), .int .i64 n, .bool co, .bool be] w (RetO w s big ch E o)) :
    Calls Tryd.prog 69 #[.pointer (some ⟨s, 0, none⟩), .int .i64 n, .bool co, .bool be] w (RetO w s big ch E o) := by
  have H := Lib.hid h
  obtain ⟨T, p, rfl⟩ := hE
  clear h
  cases o with
  | none =>
    go_enter Tryd.func69, Tryd.ntmps69
    go_wp2_with (first | (go_at_call 68; go_must (refine H.out.mono ?_); rintro e w1 ⟨rfl, hs, hf⟩))
    go_ret2
    exact ⟨rfl, hs, hf⟩
  | some q =>
    obtain ⟨z, r⟩ := q
    obtain ⟨z0, z1⟩ := ho z r rfl
    clear ho
    go_enter Tryd.func69, Tryd.ntmps69
    go_wp2_with (first | (go_at_call 68; go_must (refine H.out.mono ?_); rintro e w1 ⟨rfl, hs, hf⟩))
    go_ret2
    exact ⟨rfl, hs, hf⟩

theorem getInt_pk (s : Nat) (big : Bool) (ch : Int) (E : Value) (n : Int) (be : Bool) (r : List Int) (w : World) (h : Ss w s big ch E r) (hs : PkShort r) :
    Calls Tryd.prog 69 #[.pointer (some ⟨s, 0, none⟩), .int .i64 n, .bool true, .bool be] w (RetO w s big ch E (rdPk r)) :=
  getInt s big ch E n true be _ w h.err (fun _ _ e => rdPk_bd e) (int64_pk s big ch E n be r w h hs)
theorem getInt_num (s : Nat) (big : Bool) (ch : Int) (E : Value) (n : Nat) (be : Bool) (r : List Int) (w : World) (h : Ss w s big ch E r) (h1 : 1 ≤ n) (h8 : n ≤ 8) :
    Calls Tryd.prog 69 #[.pointer (some ⟨s, 0, none⟩), .int .i64 n, .bool false, .bool be] w (RetO w s big ch E (rdNum n be r)) :=
  getInt s big ch E n false be _ w h.err (fun _ _ e => rdNum_bd e) (int64_num s big ch E n be r w h h1 h8)
end Go.Proofs.YtgkccbfepjgjoaaDoor
