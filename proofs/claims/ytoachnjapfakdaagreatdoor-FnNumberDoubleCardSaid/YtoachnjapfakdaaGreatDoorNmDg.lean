/- spec.NumberDigits: the decimal digits of a number, without noughts at the end. -/
import Derived.Test.YtoachnjapfakdaaGreatDoorNmG
namespace Go.Proofs.YtoachnjapfakdaaGreatDoor
open Go Go.RowKit

/-- The decimal digits of a number; none of nought. -/
def dgs (n : Nat) : List Int := if h : n = 0 then [] else dgs (n / 10) ++ [((n % 10 : Nat) : Int)]
termination_by n
decreasing_by omega
theorem dgs_zero : dgs 0 = [] := by rw [dgs, dif_pos rfl]
theorem dgs_pos {n : Nat} (h : n ≠ 0) : dgs n = dgs (n / 10) ++ [((n % 10 : Nat) : Int)] := by rw [dgs, dif_neg h]
/-- Every number is a digit. -/
def D10 (l : List Int) : Prop := ∀ x ∈ l, 0 ≤ x ∧ x ≤ 9
theorem D10.byt {l : List Int} (h : D10 l) : Byt l := fun x hx => by have := h x hx; omega
theorem D10.getD {l : List Int} (h : D10 l) (k : Nat) (hk : k < l.length) : 0 ≤ l.getD k 0 ∧ l.getD k 0 ≤ 9 := by
  rw [List.getD_eq_getElem?_getD, List.getElem?_eq_getElem hk]
  exact h _ (List.getElem_mem hk)
theorem dgs_d (n : Nat) : D10 (dgs n) := by
  induction n using Nat.strongRecOn with
  | _ n ih =>
    by_cases h : n = 0
    · rw [h, dgs_zero]; intro x hx; cases hx
    · rw [dgs_pos h]
      intro x hx
      rcases List.mem_append.1 hx with hx | hx
      · exact ih (n / 10) (by omega) x hx
      · have := List.mem_singleton.1 hx; omega
theorem dgs_le : ∀ (k n : Nat), n < 10 ^ k → (dgs n).length ≤ k
  | 0, n, h => by rw [show n = 0 by simpa using h, dgs_zero]; simp
  | k + 1, n, h => by
    by_cases h0 : n = 0
    · rw [h0, dgs_zero]; simp
    · rw [dgs_pos h0, List.length_append]
      have := dgs_le k (n / 10) (by rw [Nat.pow_succ] at h; omega)
      simp; omega

/-- A row without the noughts at its end. -/
def strip0 (l : List Int) : List Int := (l.reverse.dropWhile (· == 0)).reverse
theorem strip0_of (p : List Int) (k : Nat) (hp : p = [] ∨ p.getLast? ≠ some 0) : strip0 (p ++ List.replicate k 0) = p := by
  unfold strip0
  rw [List.reverse_append, List.reverse_replicate]
  have h1 : ∀ q : List Int, (List.replicate k 0 ++ q).dropWhile (· == 0) = q.dropWhile (· == 0) := by
    intro q
    induction k with
    | zero => rfl
    | succ k ih => rw [List.replicate_succ, List.cons_append, List.dropWhile_cons_of_pos (by simp), ih]
  rw [h1]
  have h2 : p.reverse.dropWhile (· == 0) = p.reverse := by
    rcases hp with rfl | hp
    · rfl
    · cases e : p.reverse with
      | nil => rfl
      | cons a r =>
        rw [List.dropWhile_cons_of_neg]
        intro ha
        apply hp
        have : p = r.reverse ++ [a] := by rw [← List.reverse_reverse p, e]; simp
        rw [this]
        simp at ha
        simp [ha]
  rw [h2, List.reverse_reverse]
/-- The first m stay, behind them are noughts alone. -/
def Tail0 (l : List Int) (m : Nat) : Prop := m ≤ l.length ∧ l = l.take m ++ List.replicate (l.length - m) 0
theorem tail0_start (l : List Int) : Tail0 l l.length := ⟨Nat.le_refl _, by simp⟩
theorem tail0_step {l : List Int} {m : Nat} (h : Tail0 l (m + 1)) (hv : l.getD m 0 = 0) : Tail0 l m := by
  have hm := h.1
  refine ⟨by omega, ?_⟩
  have e : l.take (m + 1) = l.take m ++ [0] := by
    rw [List.take_add_one, List.getElem?_eq_getElem (by omega)]
    rw [List.getD_eq_getElem?_getD, List.getElem?_eq_getElem (by omega)] at hv
    have hv2 : l[m] = 0 := hv
    rw [hv2]; rfl
  have := h.2
  rw [e, List.append_assoc, List.singleton_append, ← List.replicate_succ, show l.length - (m + 1) + 1 = l.length - m by omega] at this
  exact this
theorem tail0_strip {l : List Int} {m : Nat} (h : Tail0 l m) (he : m = 0 ∨ l.getD (m - 1) 0 ≠ 0) : l.take m = strip0 l := by
  conv => rhs; rw [h.2]
  rw [strip0_of]
  have hm := h.1
  by_cases hk : m = 0
  · exact .inl (by rw [hk]; simp)
  · right
    rcases he with he | he
    · exact absurd he hk
    · rw [List.getLast?_take, if_neg hk]
      rw [List.getD_eq_getElem?_getD] at he
      cases e : l[m - 1]? with
      | none => simp [List.getElem?_eq_none_iff] at e; omega
      | some x => rw [e] at he; simpa using he

theorem OwnAt.take {w : World} {g cap : Nat} {xs : List Int} (r : OwnAt w g cap xs) (m : Nat) : OwnAt w g cap (xs.take m) := by
  obtain ⟨⟨cur, hh, hs, ht⟩, h2, h3, h4⟩ := r
  refine ⟨⟨cur, hh, hs, ?_⟩, by rw [List.length_take]; omega, h3, fun x hx => h4 x (List.mem_of_mem_take hx)⟩
  rw [List.length_take, List.map_take, ← ht, List.take_take, Nat.min_def]

def slen : Value → Nat
  | .slice _ n _ => n
  | _ => 0

set_option maxRecDepth 100000 in
set_option maxHeartbeats 1000000 in
theorem specDigits (n : Nat) (hn : n < 18446744073709551616) (w : World) :
    Calls Tryz.prog 13 #[.int .u64 n] w fun e w' => ∃ v, e = .returned (.tuple #[v, .int .i64 (((dgs n).length : Int) - 1)]) ∧ Own w.heap.size w' v (strip0 (dgs n)) ∧ Gr w w' := by
  have hl := dgs_le 20 n (by omega)
  have hD := dgs_d n
  obtain ⟨N, hN⟩ : ∃ N, dgs n = N := ⟨_, rfl⟩
  have hN0 : dgs n ++ [] = N := by rw [hN, List.append_nil]
  rw [hN] at hl hD ⊢
  have HL := Lib.hid hl
  have HD := Lib.hid hD
  have HN := Lib.hid hN0
  have hn0 : n < 18446744073709551616 := hn
  clear hl hD hN hN0
  go_enter Tryz.func13, Tryz.ntmps13
  go_wp2
  go_loopw [0, 4] (fun x o wr => ∃ (m : Nat) (out : List Int), x = .int .u64 m ∧ m < 18446744073709551616 ∧ dgs m ++ out = N ∧ Own w.heap.size wr o out ∧ Gr w wr) (fun x _ _ => (intOf x).toNat)
  case atStart => exact ⟨n, [], rfl, hn0, HN.out, Own.nil _ _, Gr.refl _⟩
  case round =>
    obtain ⟨m, out, rfl, hm, ho, hown, hgr⟩ := hrel
    by_cases h0 : m = 0
    · subst h0
      rw [dgs_zero, List.nil_append] at ho
      subst ho
      rcases Nat.eq_zero_or_pos out.length with hz | hp
      · obtain rfl : out = [] := List.eq_nil_of_length_eq_zero hz
        have hrd := hown.rd
        obtain ⟨p, c, rfl, _⟩ := hrd
        have HO := Lib.hid hown
        clear hown hm HL HD HN
        go_wp2
        refine wp_loop_rounds 1 ?_
        rw [rounds_succ]
        go_wp2
        exact bodyPost_ret (v := .tuple #[.slice p 0 c, .int .i64 (-1)]) (by simp [results, Tryz.results13, go_sem]) rfl ⟨_, rfl, HO.out, hgr⟩
      · obtain ⟨g, cap, rfl, hg, hat⟩ := hown.form hp
        have hcap := hat.2.1
        have hcm : cap ≤ 9223372036854775807 := by have := hat.2.2.1; simp only [maxLen] at this; omega
        have HAT := Lib.hid hat
        have HG := Lib.hid hg
        have HR := Lib.hid hgr
        obtain ⟨L, hL⟩ : ∃ L, out.length = L := ⟨_, rfl⟩
        rw [hL] at hcap hp ⊢
        have HLE := Lib.hid hL
        clear hat hgr hm HN hg hL HD
        go_wp2
        go_loopw [4] (fun o wr' => ∃ m, o = .slice (some ⟨g, 0, none⟩) m cap ∧ Tail0 out m ∧ wr' = wr) (fun o _ => slen o)
        case atStart => exact ⟨L, rfl, by have := tail0_start out; rw [HLE.out] at this; exact this, rfl⟩
        case round =>
          obtain ⟨m, rfl, hT, rfl⟩ := hrel
          have hmL : m ≤ L := by have := hT.1; rw [HLE.out] at this; exact this
          have HT := Lib.hid hT
          clear hT
          rcases Nat.eq_zero_or_pos m with rfl | hm
          · have hst := tail0_strip HT.out (.inl rfl)
            go_wp2
            rw [HLE.out]
            refine bodyPost_ret (v := .tuple #[.slice (some ⟨g, 0, none⟩) 0 cap, .int .i64 ((L : Int) - 1)]) (by simp [results, Tryz.results13, go_sem]) rfl ⟨_, rfl, ?_, HR.out⟩
            have := (HAT.out.take 0).own HG.out
            rw [← hst]; exact this
          · obtain ⟨k, rfl⟩ : ∃ k, m = k + 1 := ⟨m - 1, by omega⟩
            have kc := HAT.out.cell k (by rw [HLE.out]; omega)
            by_cases hx : out.getD k 0 = 0
            · rw [hx] at kc
              have HT2 := Lib.hid (tail0_step HT.out hx)
              clear hx
              go_wp2
              go_roundw
              case rel => exact ⟨k, by first | rfl | (congr 1; omega), HT2.out, by first | rfl | trivial⟩
              case measure => first | (simp [slen]; done) | (simp [slen]; omega)
            · have hst := tail0_strip HT.out (.inr (by simpa using hx))
              have HST := Lib.hid hst
              clear hst
              generalize out.getD k 0 = x at *
              go_wp2
              rw [HLE.out]
              refine bodyPost_ret (v := .tuple #[.slice (some ⟨g, 0, none⟩) (k + 1) cap, .int .i64 ((L : Int) - 1)]) (by simp [results, Tryz.results13, go_sem]) rfl ⟨_, rfl, ?_, HR.out⟩
              have := (HAT.out.take (k + 1)).own HG.out
              rw [List.length_take, HLE.out, Nat.min_eq_left hmL] at this
              rw [← HST.out]; exact this
    · have hlen : out.length ≤ 20 := by have h1 := HL.out; rw [← ho, List.length_append] at h1; omega
      rw [dgs_pos h0, List.append_assoc, List.singleton_append] at ho
      obtain ⟨r, hr⟩ : ∃ r, m % 10 = r := ⟨_, rfl⟩
      obtain ⟨q, hq⟩ : ∃ q, m / 10 = q := ⟨_, rfl⟩
      rw [hr, hq] at ho
      have hri : (m : Int) % 10 = (r : Int) := by omega
      have hqi : (m : Int) / 10 = (q : Int) := by omega
      have hr9 : r ≤ 9 := by omega
      have hqm : q < m := by omega
      have hm0 : (0 : Int) < (m : Int) := by omega
      have HO := Lib.hid ho
      have HW := Lib.hid hown
      have HR := Lib.hid hgr
      have hrd := hown.rd
      obtain ⟨p, c, rfl, _⟩ := hrd
      clear ho hown hgr hr hq h0
      go_wp2_with (first
        | (at_builtin; go_must (refine wpList_append_gr Go.Proofs.YtoachnjapfakdaaGreatDoor.u8 rfl _ _ rfl (w0 := w) (HR.out.alloc _) rfl (xs := [(r : Int)]) (OwnAt.own (B := w.heap.size) (OwnAt.fresh wr [(r : Int)] _ (by intro z hz; have := List.mem_singleton.1 hz; omega) rfl (by simp [maxLen])) HR.out.size) rfl (HW.out.rd.gr ((Gr.refl wr).alloc _)) (by simp; omega) ?_); intro v2 w2 ho2 hg2))
      go_roundw
      case rel => exact ⟨q, _, rfl, by omega, HO.out, ho2, hg2⟩
      case measure => first | (simp [intOf]; done) | (simp [intOf]; omega)
end Go.Proofs.YtoachnjapfakdaaGreatDoor
