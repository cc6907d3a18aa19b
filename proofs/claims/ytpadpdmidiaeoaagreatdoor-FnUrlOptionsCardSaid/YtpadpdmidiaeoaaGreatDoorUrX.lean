/- strings.TrimSpace of a text of printable signs (FnUrlOptions). -/
import Derived.Test.YtpadpdmidiaeoaaGreatDoorUrV
namespace Go.Proofs.YtpadpdmidiaeoaaGreatDoor
open Go Go.RowKit

/-- The table of the blanks. -/
def spTab : List Int := [0, 0, 0, 0, 0, 0, 0, 0, 0, 1, 1, 1, 1, 1, 0, 0, 0, 0, 0, 0, 0, 0, 0, 0, 0, 0, 0, 0, 0, 0, 0, 0, 1, 0, 0, 0, 0, 0, 0, 0, 0, 0, 0, 0, 0, 0, 0, 0, 0, 0, 0, 0, 0, 0, 0, 0, 0, 0, 0, 0, 0, 0, 0, 0, 0, 0, 0, 0, 0, 0, 0, 0, 0, 0, 0, 0, 0, 0, 0, 0, 0, 0, 0, 0, 0, 0, 0, 0, 0, 0, 0, 0, 0, 0, 0, 0, 0, 0, 0, 0, 0, 0, 0, 0, 0, 0, 0, 0, 0, 0, 0, 0, 0, 0, 0, 0, 0, 0, 0, 0, 0, 0, 0, 0, 0, 0, 0, 0, 0, 0, 0, 0, 0, 0, 0, 0, 0, 0, 0, 0, 0, 0, 0, 0, 0, 0, 0, 0, 0, 0, 0, 0, 0, 0, 0, 0, 0, 0, 0, 0, 0, 0, 0, 0, 0, 0, 0, 0, 0, 0, 0, 0, 0, 0, 0, 0, 0, 0, 0, 0, 0, 0, 0, 0, 0, 0, 0, 0, 0, 0, 0, 0, 0, 0, 0, 0, 0, 0, 0, 0, 0, 0, 0, 0, 0, 0, 0, 0, 0, 0, 0, 0, 0, 0, 0, 0, 0, 0, 0, 0, 0, 0, 0, 0, 0, 0, 0, 0, 0, 0, 0, 0, 0, 0, 0, 0, 0, 0, 0, 0, 0, 0, 0, 0, 0, 0, 0, 0, 0, 0, 0, 0, 0, 0, 0, 0]
def TabS (w : World) : Prop := Lib.TabIs Tryz.prog w "strings.asciiSpace" .u8 spTab
theorem TabS.gr {w w' : World} (h : TabS w) (g : Gr w w') : TabS w' := Lib.tabBelow_of_tabIs h w' g
theorem sp_no (n : Nat) (h1 : 32 < n) (h2 : n < 128) : spTab.getD n 0 = 0 := by
  have : ∀ m : Fin 128, 32 < m.val → spTab.getD m.val 0 = 0 := by decide +kernel
  exact this ⟨n, h2⟩ h1
/-- Blanks. -/
def spL (a : Nat) : List UInt8 := List.replicate a 32
theorem sp_get (a b : Nat) (M : List UInt8) (k : Nat) : (k < a → (spL a ++ M ++ spL b)[k]? = some 32) ∧ (∀ j, k = a + j → j < M.length → (spL a ++ M ++ spL b)[k]? = M[j]?) := by
  refine ⟨fun h => ?_, fun j hj hl => ?_⟩
  · rw [List.append_assoc, List.getElem?_append_left (by simp [spL]; exact h)]
    simp [spL, h]
  · subst hj
    rw [List.append_assoc, List.getElem?_append_right (by simp [spL])]
    rw [show (spL a).length = a by simp [spL], Nat.add_sub_cancel_left, List.getElem?_append_left hl]
theorem tail_get (b : Nat) (M : List UInt8) (k : Nat) : (∀ j, k = M.length + j → j < b → (M ++ spL b)[k]? = some 32) ∧ (k < M.length → (M ++ spL b)[k]? = M[k]?) := by
  refine ⟨fun j hj hl => ?_, fun h => ?_⟩
  · subst hj
    rw [List.getElem?_append_right (by omega), Nat.add_sub_cancel_left]
    simp [spL, hl]
  · rw [List.getElem?_append_left h]

theorem mb1 (m b : Nat) (h : 1 ≤ m) : (m : Int) + b - 1 = ((m + b - 1 : Nat) : Int) := by omega
theorem mb2 (m b : Nat) (h : 1 ≤ m) : m + b - 1 + 1 = m ∨ ∃ j, j < b ∧ m + b - 1 = m + j := by
  by_cases hb : b = 0
  · left; omega
  · right; exact ⟨b - 1, by omega, by omega⟩
theorem mj2 (m j b : Nat) (h : 1 ≤ m) (hj : j < b) : m + j - 1 + 1 = m ∨ ∃ k, k < b ∧ m + j - 1 = m + k := by
  by_cases hb : j = 0
  · left; omega
  · right; exact ⟨j - 1, by omega, by omega⟩
set_option maxRecDepth 100000 in
set_option maxHeartbeats 4000000 in
theorem trimAt (a b : Nat) (M : List UInt8) (x y : UInt8) (hx : M[0]? = some x) (hy : M[M.length - 1]? = some y) (hx1 : 32 < x.toNat ∧ x.toNat < 128) (hy1 : 32 < y.toNat ∧ y.toNat < 128) (hl : a + M.length + b ≤ 100000) (w : World) (ht : TabS w) :
    Calls Tryz.prog 42 #[.string (bs (spL a ++ M ++ spL b))] w fun e w' => e = .returned (.string (bs M)) ∧ Gr w w' := by
  have hM : 0 < M.length := by
    cases M with
    | nil => simp at hx
    | cons _ _ => simp
  have hlen : (spL a ++ M ++ spL b).length = a + M.length + b := by simp [spL]; omega
  obtain ⟨c, W2, hcv, hrw, hg, hc1, hc2⟩ := bytes_of_str_rw (spL a ++ M ++ spL b) w (by simp only [maxLen]; omega)
  rw [hlen] at hcv hc1
  have hcm : c ≤ 9223372036854775807 := by simp only [maxLen] at hc2; omega
  have hsz : (bs (spL a ++ M ++ spL b)).size = a + M.length + b := by rw [bs_size, hlen]
  have hsz2 : (bs (M ++ spL b)).size = M.length + b := by rw [bs_size]; simp [spL]
  have hcut : (bs (spL a ++ M ++ spL b)).extract a (a + M.length + b) = bs (M ++ spL b) := bs_extract' _ _ _ _ (by rw [← hlen, List.take_length, List.append_assoc, List.drop_append]; simp [spL])
  have hcut2 : (bs (M ++ spL b)).extract 0 M.length = bs M := bs_extract' _ _ _ _ (by simp)
  have K1 : ∀ k, k < a → Hid (W2.cell? ⟨w.heap.size, k, none⟩ = some (.int .u8 32)) := fun k hk => Lib.hid (by
    have h := hrw.cell k (by rw [nums_length, hlen]; omega)
    rw [h]
    have := (sp_get a b M k).1 hk
    simp only [nums, List.getD_eq_getElem?_getD, List.getElem?_map, this]; rfl)
  have K2 : W2.cell? ⟨w.heap.size, a, none⟩ = some (.int .u8 (x.toNat : Int)) := by
    have h := hrw.cell a (by rw [nums_length, hlen]; omega)
    rw [h]
    have := (sp_get a b M a).2 0 rfl hM
    simp only [nums, List.getD_eq_getElem?_getD, List.getElem?_map, this, hx]; rfl
  have K3 : ∀ j, j < b → Hid (∀ h, (((bs (M ++ spL b))[M.length + j]'h).toNat : Int) = 32) := fun j hj => Lib.hid (bs_idx0 _ _ 32 ((tail_get b M _).1 j rfl hj))
  have K4 : Hid (∀ h, (((bs (M ++ spL b))[M.length - 1]'h).toNat : Int) = (y.toNat : Int)) := Lib.hid (bs_idx0 _ _ y (((tail_get b M _).2 (by omega)).trans hy))
  have T0 : w.cell? ⟨0, 32, none⟩ = some (.int .u8 1) := Lib.TabIs.cell ht (by kernel_rfl) 32 (by decide)
  have T1 : w.cell? ⟨0, x.toNat, none⟩ = some (.int .u8 0) := (Lib.TabIs.cell ht (by kernel_rfl) x.toNat (by have : spTab.length = 256 := rfl; omega)).trans (by rw [sp_no _ hx1.1 hx1.2])
  have T2 : w.cell? ⟨0, y.toNat, none⟩ = some (.int .u8 0) := (Lib.TabIs.cell ht (by kernel_rfl) y.toNat (by have : spTab.length = 256 := rfl; omega)).trans (by rw [sp_no _ hy1.1 hy1.2])
  have T0 := hg.cell T0
  have T1 := hg.cell T1
  have T2 := hg.cell T2
  have HG := Lib.hid hg
  obtain ⟨hx2, hx3⟩ := hx1
  obtain ⟨hy2, hy3⟩ := hy1
  clear hrw hg hc2 ht hlen hx hy
  generalize bs (spL a ++ M ++ spL b) = S at *
  generalize bs (M ++ spL b) = U at *
  generalize bs M = Y at *
  generalize M.length = m at *
  generalize x.toNat = x at *
  generalize y.toNat = y at *
  obtain ⟨n, hn⟩ : ∃ n, a + m + b = n := ⟨_, rfl⟩
  rw [hn] at hsz hcut hcv hc1 hl
  have HCUT := Lib.hid hcut
  have HCUT2 := Lib.hid hcut2
  have HN := Lib.hid hn
  have hmb : m + b ≤ 100000 := by omega
  clear hcut hcut2 hn
  go_enter Tryz.func42, Tryz.ntmps42
  go_wp2
  go_loopw [0, 10] (fun s i wr => s = .string S ∧ ∃ k : Nat, i = .int .i64 k ∧ k ≤ a ∧ wr = W2) (fun _ i _ => ((a : Int) - intOf i).toNat)
  case atStart => exact ⟨rfl, 0, rfl, Nat.zero_le _, rfl⟩
  case round =>
    obtain ⟨rfl, k, rfl, hk, rfl⟩ := hrel
    have hkn : (k : Int) < (n : Int) := by have := HN.out; omega
    by_cases hka : k < a
    · have kc := (K1 k hka).out
      go_wp2
      go_roundw
      case rel => exact ⟨rfl, k + 1, by go_num, by omega, by trivial⟩
      case measure => first | (simp [intOf]; done) | (simp [intOf]; omega)
    · obtain rfl : a = k := by omega
      have hcut := HCUT.out
      have i1 : (a : Int) ≤ (n : Int) := by omega
      have x1 : ¬ ((128 : Int) ≤ (x : Int)) := by omega
      have y1 : ¬ ((128 : Int) ≤ (y : Int)) := by omega
      go_wp2
      have HS2 := Lib.hid hsz2
      go_loopw [5] (fun i wr' => ∃ h : Nat, i = .int .i64 h ∧ (h + 1 = m ∨ ∃ j, j < b ∧ h = m + j) ∧ wr' = wr) (fun i _ => (intOf i).toNat)
      case atStart =>
        have hM1 : 1 ≤ m := hM
        exact ⟨m + b - 1, congrArg (Value.int .i64) (mb1 m b hM1), mb2 m b hM1, rfl⟩
      case round =>
        obtain ⟨h, rfl, hh, rfl⟩ := hrel
        rcases hh with hh | ⟨j, hj, rfl⟩
        · obtain rfl : h = m - 1 := by omega
          have hyu := K4.out
          have hcut2 := HCUT2.out
          have j1 : ((m - 1 : Nat) : Int) + 1 = (m : Int) := by omega
          have j2 : (m : Int) ≤ ((m + b : Nat) : Int) := by omega
          have j3 : ((m - 1 : Nat) : Int) < ((m + b : Nat) : Int) := by omega
          clear hh
          go_wp2
          go_ret
          exact ⟨rfl, HG.out⟩
        · have hyu := (K3 j hj).out
          have j3 : ((m + j : Nat) : Int) < ((m + b : Nat) : Int) := by omega
          go_wp2
          go_roundw
          case rel =>
            exact ⟨m + j - 1, by go_num, mj2 m j b hM hj, by trivial⟩
          case measure => first | (simp [intOf]; done) | (simp [intOf]; omega)
end Go.Proofs.YtpadpdmidiaeoaaGreatDoor
