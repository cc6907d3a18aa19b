/- slices.Equal of rows of servers that are equal. -/
import Derived.Test.YtkonfcgdokabaaaDoorCfAw
namespace Go.Proofs.YtkonfcgdokabaaaDoor
open Go Go.RowKit

set_option maxRecDepth 100000 in
set_option maxHeartbeats 1000000 in
theorem equalServers (v u : Value) (A : List Srv) (w : World) (hv : RdSv w v A) (hu : RdSv w u A) :
    Calls Tryd.prog 15 #[v, u] w fun e w' => e = .returned (.bool true) ∧ Gr w w' := by
  obtain ⟨p, c, rfl, h1, h2, h3⟩ := hv
  obtain ⟨p2, c2, rfl, k1, k2, k3⟩ := hu
  obtain ⟨n, hn⟩ : ∃ n, A.length = n := ⟨_, rfl⟩
  have hc1 : c ≤ 9223372036854775807 := by simp only [maxLen] at h2; omega
  have hc2 : c2 ≤ 9223372036854775807 := by simp only [maxLen] at k2; omega
  have HN := Lib.hid hn
  have H3 := Lib.hid h3
  have K3 := Lib.hid k3
  rw [hn] at h1 k1 ⊢
  clear hn h3 k3 h2 k2
  go_enter Tryd.func15, Tryd.ntmps15
  go_wp2
  go_loopw [13] (fun i wr => ∃ j : Nat, i = .int .i64 j ∧ j ≤ n ∧ Gr w wr) (fun i _ => ((n : Int) - intOf i).toNat)
  case atStart => exact ⟨0, rfl, Nat.zero_le _, Gr.refl _⟩
  case round =>
    obtain ⟨j, rfl, hj, hgr⟩ := hrel
    by_cases e : j < n
    · have hjl : j < A.length := by rw [HN.out]; exact e
      obtain ⟨b, o, rfl, hc⟩ := H3.out (by omega)
      obtain ⟨b2, o2, rfl, hd⟩ := K3.out (by omega)
      obtain ⟨x0, x1, x2⟩ := (hc j hjl).gr hgr
      obtain ⟨y0, y1, y2⟩ := (hd j hjl).gr hgr
      generalize A[j] = s at *
      generalize bs s.a = S1 at *
      have HGR := Lib.hid hgr
      clear hc hd hgr
      go_wp2
      go_region_held3 (fun w' => w'.cell? ⟨b, o + j * 3, none⟩ = some (.string s.p) ∧ w'.cell? ⟨b, o + j * 3 + 1, none⟩ = some (.string S1) ∧ w'.cell? ⟨b, o + j * 3 + 2, none⟩ = some (.int .i64 s.n) ∧ w'.cell? ⟨b2, o2 + j * 3, none⟩ = some (.string s.p) ∧ w'.cell? ⟨b2, o2 + j * 3 + 1, none⟩ = some (.string S1) ∧ w'.cell? ⟨b2, o2 + j * 3 + 2, none⟩ = some (.int .i64 s.n)) (go_keep) (fail)
      all_goals go_wp2
      all_goals go_roundw
      case rel => exact ⟨j + 1, by go_num, by omega, HGR.out.drew⟩
      case measure => simp [intOf]; omega
    · obtain rfl : n = j := by omega
      go_wp2
      go_ret
      exact ⟨rfl, hgr⟩
end Go.Proofs.YtkonfcgdokabaaaDoor
