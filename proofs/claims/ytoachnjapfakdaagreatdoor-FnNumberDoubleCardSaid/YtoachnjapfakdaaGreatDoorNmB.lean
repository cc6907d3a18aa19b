/- EncodeInt64: the walk. -/
import Derived.Test.YtoachnjapfakdaaGreatDoorNmA
import Derived.Test.YtoachnjapfakdaaGreatDoorIvB
namespace Go.Proofs.YtoachnjapfakdaaGreatDoor
open Go Go.RowKit

/-- The decimal digits' letters of a number. -/
def letters (u : Nat) : List Int := (Lib.decDigits u).map fun b => (b.toNat : Int)
theorem letters_lt {u : Nat} (h : u < 10) : letters u = [48 + (u : Int)] := by
  unfold letters
  rw [decDigits_lt h]
  simp only [List.map_cons, List.map_nil]
  congr 1
  have : (UInt8.ofNat (48 + u)).toNat = 48 + u := by rw [UInt8.toNat_ofNat']; omega
  omega
theorem letters_ge {u : Nat} (h : ¬ u < 10) : letters u = letters (u / 10) ++ [48 + ((u % 10 : Nat) : Int)] := by
  unfold letters
  rw [decDigits_ge h, List.map_append]
  simp only [List.map_cons, List.map_nil]
  congr 2
  have : (UInt8.ofNat (48 + u % 10)).toNat = 48 + u % 10 := by rw [UInt8.toNat_ofNat']; omega
  omega
theorem letters_dig (u : Nat) : Dig (letters u) := by
  induction u using Nat.strongRecOn with
  | _ n ih =>
    intro x hx
    by_cases h : n < 10
    · rw [letters_lt h] at hx
      have := List.mem_singleton.1 hx
      omega
    · rw [letters_ge h] at hx
      rcases List.mem_append.1 hx with h1 | h1
      · exact ih (n / 10) (by omega) x h1
      · have := List.mem_singleton.1 h1
        omega
theorem letters_length (u : Nat) : (letters u).length = Lib.nDigits u := by simp [letters, Lib.decDigits_length]
theorem letters_pos (u : Nat) : 1 ≤ (letters u).length := by rw [letters_length]; exact Lib.nDigits_pos u

/-- The letters without the noughts at the end. -/
def strip (l : List Int) : List Int := (l.reverse.dropWhile (· == 48)).reverse
theorem strip_of (p : List Int) (k : Nat) (hp : p = [] ∨ p.getLast? ≠ some 48) : strip (p ++ List.replicate k 48) = p := by
  unfold strip
  rw [List.reverse_append, List.reverse_replicate]
  have h1 : ∀ q : List Int, (List.replicate k 48 ++ q).dropWhile (· == 48) = q.dropWhile (· == 48) := by
    intro q
    induction k with
    | zero => rfl
    | succ k ih => rw [List.replicate_succ, List.cons_append, List.dropWhile_cons_of_pos (by simp), ih]
  rw [h1]
  have h2 : p.reverse.dropWhile (· == 48) = p.reverse := by
    rcases hp with rfl | hp
    · rfl
    · cases e : p.reverse with
      | nil => rfl
      | cons a r =>
        rw [List.dropWhile_cons_of_neg]
        intro ha
        apply hp
        have : p = r.reverse ++ [a] := by rw [← List.reverse_reverse p, e]; simp
        rw [this]
        simp at ha
        simp [ha]
  rw [h2, List.reverse_reverse]

/-- What the loop over the noughts at the end has seen. -/
def Tail (l : List Int) (k : Nat) : Prop := k ≤ l.length ∧ l = l.take (l.length - k) ++ List.replicate k 48
theorem tail_zero (l : List Int) : Tail l 0 := ⟨Nat.zero_le _, by simp⟩
theorem tail_step {l : List Int} {k : Nat} (h : Tail l k) (hk : k < l.length) (hv : l.getD (l.length - 1 - k) 0 = 48) : Tail l (k + 1) := by
  refine ⟨hk, ?_⟩
  have e : l.take (l.length - k) = l.take (l.length - (k + 1)) ++ [48] := by
    rw [show l.length - k = l.length - (k + 1) + 1 by omega, List.take_add_one, List.getElem?_eq_getElem (by omega)]
    rw [List.getD_eq_getElem?_getD, List.getElem?_eq_getElem (by omega)] at hv
    have e2 : l.length - 1 - k = l.length - (k + 1) := by omega
    simp only [e2] at hv
    have hv2 : l[l.length - (k + 1)]'(by omega) = 48 := hv
    rw [hv2]; rfl
  rw [List.replicate_succ, List.append_cons, ← e]
  exact h.2
theorem tail_strip {l : List Int} {k : Nat} (h : Tail l k) (he : k = l.length ∨ l.getD (l.length - 1 - k) 0 ≠ 48) : l.take (l.length - k) = strip l := by
  conv => rhs; rw [h.2]
  rw [strip_of]
  by_cases hk : k = l.length
  · exact .inl (by rw [hk]; simp)
  · right
    rcases he with he | he
    · exact absurd he hk
    · have hk2 := h.1
      rw [List.getLast?_take, if_neg (by omega)]
      rw [List.getD_eq_getElem?_getD] at he
      rw [show l.length - k - 1 = l.length - 1 - k by omega]
      cases e : l[l.length - 1 - k]? with
      | none => simp [List.getElem?_eq_none_iff] at e; omega
      | some x => rw [e] at he; simpa using he

theorem toNumber (b o m c : Nat) (ms : List Int) (neg : Bool) (e : Int) (w : World) (h : RdAt w b o ms) (hn : ms.length = m) (h1 : 1 ≤ m) (h2 : m ≤ 19) (hc : m ≤ c) (hm : c ≤ maxLen) (hd : Dig ms) (he : 0 ≤ e ∧ e < 100) :
    Calls Tryz.prog 23 #[.slice (some ⟨b, o, none⟩) m c, .bool neg, .int .i64 e] w fun e' w' => ∃ u, e' = .returned u ∧ Own w.heap.size w' u (numForm neg ms e) ∧ Gr w w' := by
  unfold numForm mant
  by_cases hev : e % 2 = 0
  · rw [if_pos hev]
    cases neg
    · rw [if_neg (by simp)]; exact toNumber_even_pos b o m c ms e w h hn h1 h2 hc hm hd he hev
    · rw [if_pos (by simp; omega)]; exact toNumber_even_neg b o m c ms e w h hn h1 h2 hc hm hd he hev
  · rw [if_neg hev]
    cases neg
    · rw [if_neg (by simp)]; exact toNumber_odd_pos b o m c ms e w h hn h1 (by omega) hd he (by omega)
    · rw [if_pos (by simp; omega)]; exact toNumber_odd_neg b o m c ms e w h hn h1 (by omega) hd he (by omega)

theorem toNumber_nil (p : Option Addr) (c : Nat) (neg : Bool) (e : Int) (w : World) :
    Calls Tryz.prog 23 #[.slice p 0 c, .bool neg, .int .i64 e] w fun e' w' => ∃ u, e' = .returned u ∧ Own w.heap.size w' u [128] ∧ Gr w w' := by
  go_enter Tryz.func23, Tryz.ntmps23
  go_wp2
  go_ret
  exact ⟨_, rfl, (OwnAt.fresh w [128] _ (by intro z hz; simp at hz; omega) rfl (by simp [maxLen])).own (Nat.le_refl _), (Gr.refl w).alloc _⟩
end Go.Proofs.YtoachnjapfakdaaGreatDoor
