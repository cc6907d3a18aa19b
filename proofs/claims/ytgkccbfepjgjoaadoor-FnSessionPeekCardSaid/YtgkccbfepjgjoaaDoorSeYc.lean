/- slices.Reverse of bytes in a row of the call's own. -/
import Derived.Test.YtgkccbfepjgjoaaDoorSeMj
namespace Go.Proofs.YtgkccbfepjgjoaaDoor
open Go Go.RowKit

/-- m is l with its i outer places on both sides exchanged. -/
def RevI (l : List Int) (i : Nat) (m : List Int) : Prop := m.length = l.length ∧ ∀ k, k < l.length → m.getD k 0 = if k < i ∨ l.length ≤ k + i then l.getD (l.length - 1 - k) 0 else l.getD k 0
theorem RevI.last {l m : List Int} {i j : Nat} (h : RevI l i m) (hj : j + i + 1 = l.length) (hij : ¬ i < j) : m = l.reverse := by
  apply List.ext_getElem (by simp [h.1])
  intro k h1 h2
  have hk : k < l.length := by rw [← h.1]; exact h1
  have e := h.2 k hk
  rw [List.getD_eq_getElem?_getD, List.getElem?_eq_getElem h1, Option.getD_some] at e
  rw [e, List.getElem_reverse]
  split
  · rw [List.getD_eq_getElem?_getD, List.getElem?_eq_getElem (by omega), Option.getD_some]
  · have : k = l.length - 1 - k := by omega
    rw [List.getD_eq_getElem?_getD, List.getElem?_eq_getElem hk, Option.getD_some]
    congr 1
theorem getD_set (m : List Int) (i k : Nat) (x : Int) (hi : i < m.length) : (m.set i x).getD k 0 = if k = i then x else m.getD k 0 := by
  rw [List.getD_eq_getElem?_getD, List.getElem?_set, List.getD_eq_getElem?_getD]
  by_cases h : i = k
  · subst h; simp [hi]
  · rw [if_neg h, if_neg (fun e => h e.symm)]
theorem RevI.step {l m : List Int} {i j : Nat} (h : RevI l i m) (hj : j + i + 1 = l.length) (hij : i < j) : RevI l (i + 1) ((m.set i (m.getD j 0)).set j (m.getD i 0)) := by
  refine ⟨by simp [h.1], fun k hk => ?_⟩
  have hi := h.2 i (by omega)
  have hjj := h.2 j (by omega)
  have hkk := h.2 k hk
  rw [if_neg (by omega)] at hi hjj
  rw [getD_set _ _ _ _ (by simp [h.1]; omega), getD_set _ _ _ _ (by rw [h.1]; omega)]
  by_cases e1 : k = j
  · subst e1
    rw [if_pos rfl, hi, if_pos (by omega)]
    congr 1
    omega
  · rw [if_neg e1]
    by_cases e2 : k = i
    · subst e2
      rw [if_pos rfl, hjj, if_pos (by omega)]
      congr 1
      omega
    · rw [if_neg e2, hkk]
      by_cases e3 : k < i ∨ l.length ≤ k + i
      · rw [if_pos e3, if_pos (by omega)]
      · rw [if_neg e3, if_neg (by omega)]

set_option maxRecDepth 100000 in
set_option maxHeartbeats 2000000 in
theorem reverse_all (l : List Int) (n : Nat) (w0 w : World) (g cap : Nat) (h : OwnAt w g cap l) (hn : l.length = n) (hn0 : 0 < n) (hn8 : n ≤ 1000000) (h0 : Gr w0 w) (hg : w0.heap.size ≤ g) :
    Calls Tryd.prog 22 #[.slice (some ⟨g, 0, none⟩) n cap] w fun e w' => e = .returned (.tuple #[]) ∧ OwnAt w' g cap l.reverse ∧ Gr w0 w' := by
  have hc2 := h.2.1
  rw [hn] at hc2
  have hcm := h.2.2.1
  have hcm2 : cap ≤ 9223372036854775807 := by simp only [maxLen] at hcm; omega
  have HN := Lib.hid hn
  have HO := Lib.hid h
  have H0 := Lib.hid h0
  clear h hn hcm h0
  have mixed : Tryd.prog.follows .mixedOrders = true := by kernel_rfl
  go_enter Tryd.func22, Tryd.ntmps22
  go_wp2
  go_loopw [2, 3] (fun iv jv wr => ∃ i j : Nat, iv = .int .i64 i ∧ jv = .int .i64 j ∧ j + i + 1 = n ∧ ∃ m, OwnAt wr g cap m ∧ RevI l i m ∧ Gr w0 wr) (fun iv _ _ => n - (intOf iv).toNat)
  case atStart => exact ⟨0, n - 1, rfl, by rw [show ((n - 1 : Nat) : Int) = (n : Int) - 1 by omega], by omega, l, HO.out, ⟨rfl, fun k hk => by rw [if_neg (by omega)]⟩, H0.out⟩
  case round =>
    obtain ⟨i, j, rfl, rfl, hij, m, hm, hrev, hgr⟩ := hrel
    have hml : m.length = n := hrev.1.trans HN.out
    by_cases hlt : i < j
    · have ci := hm.cell i (by omega)
      have cj := hm.cell j (by omega)
      have fi := hm.free i
      have fj := hm.free j
      have bi := byt_getD hm.byt i
      have bj := byt_getD hm.byt j
      have hst := hrev.step (j := j) (by rw [HN.out]; exact hij) hlt
      have HST := Lib.hid hst
      have H1 := Lib.hid ((hm.drew.setCell i (by omega) _ bj).setCell j (by simp; omega) _ bi)
      have H2 := Lib.hid ((hgr.drew.setCell (p := ⟨g, i, none⟩) hg (.int .u8 (m.getD j 0))).setCell (p := ⟨g, j, none⟩) hg (.int .u8 (m.getD i 0)))
      have i1 : (i : Int) < j := by omega
      have i2 : (j : Int) < n := by omega
      have hne : ¬ i = j := by omega
      have hne2 : ¬ j = i := by omega
      clear hst hm hrev hgr bi bj hml
      generalize m.getD i 0 = a at *
      generalize m.getD j 0 = b at *
      go_wp2_with fail
      go_region_o
      go_wp2
      go_roundw
      case rel => exact ⟨i + 1, j - 1, by go_num, by rw [show ((j - 1 : Nat) : Int) = (j : Int) - 1 by omega], by omega, _, H1.out, HST.out, H2.out⟩
      case measure => simp [intOf]; omega
    · have hfin := hrev.last (j := j) (by rw [HN.out]; exact hij) hlt
      subst hfin
      clear hrev
      go_wp2
      go_end0
      exact ⟨rfl, hm, hgr⟩
end Go.Proofs.YtgkccbfepjgjoaaDoor
