/- slices.Equal of rows that are equal; the laws' servedAwake. -/
import Derived.Test.YtkonfcgdokabaaaDoorCfSv
namespace Go.Proofs.YtkonfcgdokabaaaDoor
open Go Go.RowKit

def RdBl (w : World) (v : Value) (A : List Bool) : Prop :=
  ∃ p c, v = .slice p A.length c ∧ A.length ≤ c ∧ c ≤ maxLen ∧ (0 < A.length → ∃ b, p = some ⟨b, 0, none⟩ ∧ ∀ i (hi : i < A.length), w.cell? ⟨b, i, none⟩ = some (.bool A[i]))
theorem RdBl.gr {a w : World} {v : Value} {l : List Bool} (h : RdBl a v l) (g : Gr a w) : RdBl w v l := by
  obtain ⟨p, c, rfl, h1, h2, h3⟩ := h
  refine ⟨p, c, rfl, h1, h2, fun hn => ?_⟩
  obtain ⟨b, rfl, hc⟩ := h3 hn
  exact ⟨b, rfl, fun i hi => g.cell (hc i hi)⟩
theorem OwnR.rdBl {B : Nat} {w : World} {v : Value} {l : List Bool} (h : OwnR 4 1 B w v (l.map fun x => [.bool x])) : RdBl w v l := by
  obtain ⟨p, c, rfl, h1, h2, h3⟩ := h.shape
  rw [List.length_map] at h1 ⊢
  refine ⟨p, c, rfl, h1, h2, fun hn => ?_⟩
  obtain ⟨b, cap, hv, _, _, _, _, hat⟩ := h.at' (by rw [List.length_map]; exact hn)
  rw [List.length_map] at hv
  simp only [Value.slice.injEq] at hv
  refine ⟨b, hv.1, fun i hi => ?_⟩
  have hs : (l.map fun x => [Value.bool x])[i]? = some [.bool l[i]] := by simp [hi]
  have := hat i 0 _ _ hs rfl
  simpa using this
theorem OwnR.rdSv {B : Nat} {w : World} {v : Value} {l : List Srv} (h : OwnR 26 3 B w v (l.map Srv.cs)) : RdSv w v l := by
  obtain ⟨p, c, rfl, h1, h2, h3⟩ := h.shape
  rw [List.length_map] at h1 ⊢
  refine ⟨p, c, rfl, h1, h2, fun hn => ?_⟩
  obtain ⟨b, cap, hv, _, _, _, _, hat⟩ := h.at' (by rw [List.length_map]; exact hn)
  rw [List.length_map] at hv
  simp only [Value.slice.injEq] at hv
  refine ⟨b, 0, hv.1, fun i hi => ?_⟩
  have hs : (l.map Srv.cs)[i]? = some (Srv.cs l[i]) := by simp [hi]
  rw [Nat.zero_add]
  exact ⟨hat i 0 _ _ hs rfl, hat i 1 _ _ hs rfl, hat i 2 _ _ hs rfl⟩

set_option maxRecDepth 100000 in
set_option maxHeartbeats 1000000 in
theorem equalBools (v u : Value) (A : List Bool) (w : World) (hv : RdBl w v A) (hu : RdBl w u A) :
    Calls Tryd.prog 28 #[v, u] w fun e w' => e = .returned (.bool true) ∧ Gr w w' := by
  obtain ⟨p, c, rfl, h1, h2, h3⟩ := hv
  obtain ⟨p2, c2, rfl, k1, k2, k3⟩ := hu
  obtain ⟨n, hn⟩ : ∃ n, A.length = n := ⟨_, rfl⟩
  have hc1 : c ≤ 9223372036854775807 := by simp only [maxLen] at h2; omega
  have hc2 : c2 ≤ 9223372036854775807 := by simp only [maxLen] at k2; omega
  have HN := Lib.hid hn
  have H3 := Lib.hid h3
  have K3 := Lib.hid k3
  rw [hn] at h1 k1 ⊢
  clear hn h3 k3 h2 k2
  go_enter Tryd.func28, Tryd.ntmps28
  go_wp2
  go_loopw [13] (fun i wr => ∃ j : Nat, i = .int .i64 j ∧ j ≤ n ∧ Gr w wr) (fun i _ => ((n : Int) - intOf i).toNat)
  case atStart => exact ⟨0, rfl, Nat.zero_le _, Gr.refl _⟩
  case round =>
    obtain ⟨j, rfl, hj, hgr⟩ := hrel
    by_cases e : j < n
    · have hjl : j < A.length := by rw [HN.out]; exact e
      obtain ⟨b, rfl, hc⟩ := H3.out (by omega)
      obtain ⟨b2, rfl, hd⟩ := K3.out (by omega)
      have x := hgr.cell (hc j hjl)
      have y := hgr.cell (hd j hjl)
      generalize A[j] = q at *
      have HGR := Lib.hid hgr
      clear hc hd hgr
      go_wp2
      go_region_held3 (fun w' => w'.cell? ⟨b, j, none⟩ = some (.bool q) ∧ w'.cell? ⟨b2, j, none⟩ = some (.bool q)) (go_keep) (fail)
      all_goals go_wp2
      all_goals go_roundw
      case rel => exact ⟨j + 1, by go_num, by omega, HGR.out.drew⟩
      case measure => simp [intOf]; omega
    · obtain rfl : n = j := by omega
      go_wp2
      go_ret
      exact ⟨rfl, hgr⟩

/-- The server of the law's own example. -/
def exSrv : Srv := ⟨⟨#[]⟩, [97], 1⟩
theorem ex_gots : Inf.gots ⟨[], 0⟩ [⟨0, exSrv⟩, ⟨1, noSrv⟩] = [none, some exSrv] := rfl
theorem ex_all : Inf.all ⟨[], 0⟩ [⟨0, exSrv⟩, ⟨1, noSrv⟩] = ⟨[exSrv], 0⟩ := rfl
theorem ex_new (w : World) (T : TypeId) (H : Nat) (hH : w.heap.size = H) : RdStp (w.alloc (.cells #[.int .i64 0, .string ⟨#[]⟩, .string ⟨#[97]⟩, .int .i64 1, .int .i64 1, .string ⟨#[]⟩, .string ⟨#[]⟩, .int .i64 0] T)) (.slice (some ⟨H, 0, none⟩) 2 2) [⟨0, exSrv⟩, ⟨1, noSrv⟩] := by
  have h := fun i => blk_cell (heap_new_at w (.cells #[.int .i64 0, .string ⟨#[]⟩, .string ⟨#[97]⟩, .int .i64 1, .int .i64 1, .string ⟨#[]⟩, .string ⟨#[]⟩, .int .i64 0] T) hH.symm) i
  refine ⟨_, _, rfl, Nat.le_refl _, by simp [maxLen], fun _ => ⟨H, rfl, fun i hi => ?_⟩⟩
  have hi : i < 2 := hi
  match i, hi with
  | 0, _ => exact ⟨(h _).trans rfl, (h _).trans rfl, (h _).trans rfl, (h _).trans rfl⟩
  | 1, _ => exact ⟨(h _).trans rfl, (h _).trans rfl, (h _).trans rfl, (h _).trans rfl⟩
theorem bl_new (w : World) (T : TypeId) (H : Nat) (hH : w.heap.size = H) : RdBl (w.alloc (.cells #[.bool false, .bool true] T)) (.slice (some ⟨H, 0, none⟩) 2 2) [false, true] := by
  have h := fun i => blk_cell (heap_new_at w (.cells #[.bool false, .bool true] T) hH.symm) i
  refine ⟨_, _, rfl, Nat.le_refl _, by simp [maxLen], fun _ => ⟨H, rfl, fun i hi => ?_⟩⟩
  have hi : i < 2 := hi
  match i, hi with
  | 0, _ => exact (h _).trans rfl
  | 1, _ => exact (h _).trans rfl

set_option maxRecDepth 100000 in
set_option maxHeartbeats 1000000 in
theorem servedAwake (w : World) : Calls Tryd.prog 10 #[] w fun e w' => e = .returned (.bool true) ∧ Gr w w' := by
  have HS := fun W v h => Lib.hid (served v [⟨0, exSrv⟩, ⟨1, noSrv⟩] W h (by simp) (by simp [exSrv, Srv.good, Srv.short, Srv.plain, bs_size]; decide))
  have HE := fun W v u h1 h2 => Lib.hid (equalBools v u [false, true] W h1 h2)
  unfold RetServed at HS
  rw [ex_gots, ex_all] at HS
  obtain ⟨H, hH⟩ : ∃ H, w.heap.size = H := ⟨_, rfl⟩
  go_enter Tryd.func10, Tryd.ntmps10
  go_wp2_with (first
    | (go_at_call 14; go_must (refine (HS _ _ (ex_new _ _ _ (by simp [hH]))).out.mono ?_); rintro e w2 ⟨ov, bv, av, rfl, ho, hb, ha, hg⟩))
  obtain ⟨bo, co, hvo, hco, hcm, _, hlo, hato⟩ := ho.at' (by simp)
  have hvo : ov = .slice (some ⟨bo, 0, none⟩) 2 co := hvo
  have hco : 2 ≤ co := hco
  obtain ⟨ba, ca, hva, hca, hcam, _, hla, hata⟩ := ha.at' (by simp)
  have hva : av = .slice (some ⟨ba, 0, none⟩) 1 ca := hva
  have hca : 1 ≤ ca := hca
  have hbl : RdBl w2 bv [false, true] := OwnR.rdBl (l := [false, true]) hb
  have o3 : w2.cell? ⟨bo, 3, none⟩ = some (.string ⟨#[]⟩) := hato 1 0 _ _ rfl rfl
  have o4 : w2.cell? ⟨bo, 4, none⟩ = some (.string ⟨#[97]⟩) := hato 1 1 _ _ rfl rfl
  have o5 : w2.cell? ⟨bo, 5, none⟩ = some (.int .i64 1) := hato 1 2 _ _ rfl rfl
  have a0 : w2.cell? ⟨ba, 0, none⟩ = some (.string ⟨#[]⟩) := hata 0 0 _ _ rfl rfl
  have a1 : w2.cell? ⟨ba, 1, none⟩ = some (.string ⟨#[97]⟩) := hata 0 1 _ _ rfl rfl
  have a2 : w2.cell? ⟨ba, 2, none⟩ = some (.int .i64 1) := hata 0 2 _ _ rfl rfl
  have hb1 := hg.heap (((Gr.refl (w.alloc (.cells #[.string ⟨#[]⟩, .string ⟨#[97]⟩, .int .i64 1] 26))).alloc _).heap (heap_new_at w (.cells #[.string ⟨#[]⟩, .string ⟨#[97]⟩, .int .i64 1] 26) hH.symm))
  have x0 : w2.cell? ⟨H, 0, none⟩ = some (.string ⟨#[]⟩) := (blk_cell hb1 0).trans rfl
  have x1 : w2.cell? ⟨H, 1, none⟩ = some (.string ⟨#[97]⟩) := (blk_cell hb1 1).trans rfl
  have x2 : w2.cell? ⟨H, 2, none⟩ = some (.int .i64 1) := (blk_cell hb1 2).trans rfl
  have hlx := lt_of_some hb1
  have HGW := Lib.hid (show Gr w w2 from (((Gr.refl w).alloc _).alloc _).trans hg)
  have HBL := Lib.hid hbl
  subst hvo hva
  obtain ⟨pb, cb, rfl, _⟩ := id hbl
  have hco2 : co ≤ 9223372036854775807 := by simp only [maxLen] at hcm; omega
  have hca2 : ca ≤ 9223372036854775807 := by simp only [maxLen] at hcam; omega
  clear ho ha hb hg hb1 hato hata hbl hcm hcam
  have hG : Gr w2 w2.drew := (Gr.refl w2).drew
  go_region_held3 (fun w' => w'.cell? ⟨bo, 3, none⟩ = some (.string ⟨#[]⟩) ∧ w'.cell? ⟨bo, 4, none⟩ = some (.string ⟨#[97]⟩) ∧ w'.cell? ⟨bo, 5, none⟩ = some (.int .i64 1) ∧ w'.cell? ⟨H, 0, none⟩ = some (.string ⟨#[]⟩) ∧ w'.cell? ⟨H, 1, none⟩ = some (.string ⟨#[97]⟩) ∧ w'.cell? ⟨H, 2, none⟩ = some (.int .i64 1) ∧ w'.cell? ⟨ba, 0, none⟩ = some (.string ⟨#[]⟩) ∧ w'.cell? ⟨ba, 1, none⟩ = some (.string ⟨#[97]⟩) ∧ w'.cell? ⟨ba, 2, none⟩ = some (.int .i64 1)) (first | go_keep | (with_reducible exact ⟨hG.cell o3, hG.cell o4, hG.cell o5, hG.cell x0, hG.cell x1, hG.cell x2, hG.cell a0, hG.cell a1, hG.cell a2⟩))
    ((first
      | (go_at_call 28; go_must (refine (HE _ _ _ (HBL.out.gr (by first | exact ((Gr.refl w2).drew).alloc _ | exact ((Gr.refl w2).alloc _).drew)) (by first | exact bl_new _ _ _ (by simp) | exact (bl_new _ _ _ (by simp)).gr (Gr.refl _).drew)).out.mono ?_); rintro e w5 ⟨rfl, hg5⟩; have hG : Gr w2 w5 := Gr.trans (by first | exact ((Gr.refl w2).drew).alloc _ | exact ((Gr.refl w2).alloc _).drew) hg5)))
  all_goals go_wp2
  all_goals go_ret
  all_goals exact ⟨rfl, HGW.out.trans hG⟩
end Go.Proofs.YtkonfcgdokabaaaDoor
