/- FnUrlBack: the cutting of texts, and a host's letters. -/
import Derived.Test.YtpadpdmidiaeoaaDoorUrE
namespace Go.Proofs.YtpadpdmidiaeoaaDoor
open Go Go.RowKit

theorem cut_at (A R : List UInt8) (s : UInt8) (h : s ∉ A) (k : Nat) (hk : k < (bs (A ++ s :: R)).size) : (k < A.length → (((bs (A ++ s :: R))[k]'hk).toNat : Int) ≠ (s.toNat : Int)) ∧ (k = A.length → (((bs (A ++ s :: R))[k]'hk).toNat : Int) = (s.toNat : Int)) := by
  have h' : k < (A ++ s :: R).length := by rwa [bs_size] at hk
  rw [bs_get _ _ hk h']
  refine ⟨fun hka e => ?_, fun hka => ?_⟩
  · rw [List.getElem_append_left hka] at e
    have : A[k] = s := UInt8.toNat_inj.1 (by omega)
    exact h (this ▸ List.getElem_mem hka)
  · subst hka
    rw [List.getElem_append_right (Nat.le_refl _)]
    simp
theorem cut_parts (A R : List UInt8) (s : UInt8) : (bs (A ++ s :: R)).extract 0 A.length = bs A ∧ (bs (A ++ s :: R)).extract (A.length + 1) (A.length + 1 + R.length) = bs R := by
  refine ⟨bs_extract' _ _ _ _ (by simp), bs_extract' _ _ _ _ ?_⟩
  rw [List.take_of_length_le (by simp; omega)]
  simp [List.drop_append]

set_option maxRecDepth 100000 in
set_option maxHeartbeats 2000000 in
theorem urlCut (A R : List UInt8) (s : UInt8) (h : s ∉ A) (hl : A.length + R.length ≤ 100000000) (w : World) :
    Calls Tryd.prog 10 #[.string (bs (A ++ s :: R)), .int .u8 (s.toNat : Int)] w fun e w' => e = .returned (.tuple #[.string (bs A), .string (bs R)]) ∧ Gr w w' := by
  have hget := cut_at A R s h
  obtain ⟨p1, p2⟩ := cut_parts A R s
  have hsz : (bs (A ++ s :: R)).size = A.length + 1 + R.length := by rw [bs_size]; simp; omega
  obtain ⟨m, hm⟩ : ∃ m, A.length = m := ⟨_, rfl⟩
  obtain ⟨r, hr⟩ : ∃ r, R.length = r := ⟨_, rfl⟩
  rw [hm, hr] at hsz p2 hl
  rw [hm] at p1 hget
  have HGET := fun k h => Lib.hid (hget k h)
  have HSZ := Lib.hid hsz
  generalize bs (A ++ s :: R) = X at *
  generalize bs A = Y at *
  generalize bs R = Z at *
  have hs := s.toNat_lt
  generalize s.toNat = c at *
  clear hm hr h
  have P1 := Lib.hid p1
  have P2 := Lib.hid p2
  clear p1 p2 hget
  go_enter Tryd.func10, Tryd.ntmps10
  go_wp2
  go_loopw [9] (fun i wr => ∃ k : Nat, i = .int .i64 k ∧ k ≤ m ∧ wr = w) (fun i _ => ((m : Int) - intOf i).toNat)
  case atStart => exact ⟨0, rfl, by omega, rfl⟩
  case round =>
    obtain ⟨k, rfl, hk, rfl⟩ := hrel
    have hkx : k < X.size := by have := HSZ.out; omega
    have hc := (HGET k hkx).out
    have hkz : (k : Int) < (X.size : Int) := by omega
    by_cases hkm : k < m
    · have hc := hc.1 hkm
      go_wp2
      go_roundw
      case rel => exact ⟨k + 1, by go_num, by omega, by trivial⟩
      case measure => first | (simp [intOf]; done) | (simp [intOf]; omega)
    · obtain rfl : m = k := by omega
      have hc := hc.2 rfl
      have q1 := P1.out
      have q2 := P2.out
      have hm1 : (m : Int) ≤ (X.size : Int) := by omega
      have hm2 : (m : Int) + 1 ≤ (X.size : Int) := by omega
      go_wp2
      go_quiet (fail)
      go_wp2
      exact bodyPost_ret (v := .tuple #[.string Y, .string Z]) (by simp [results, Tryd.results10, go_sem, q1, q2]) rfl ⟨rfl, (Gr.refl _).drewN _⟩
end Go.Proofs.YtpadpdmidiaeoaaDoor
