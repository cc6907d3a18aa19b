/- (*ConnectPacket).bytes. Printed by gen_cn.py. -/
import Derived.Test.YtoaajnhbcekglaaDoorPkT
import Derived.LoopTactic
import Derived.Deep.DeepCutAuto
import Derived.Deep.RegionHeld3
namespace Go.Proofs.YtoaajnhbcekglaaDoor
open Go Go.RowKit

/-- A packet CONNECT's cells and its context's, as its bytes ask for them. -/
structure CnCells (w : World) (b q B n cp : Nat) (ver lo opt our sdu tdu : Int) : Prop where
  h0 : w.cell? ⟨b, 0, none⟩ = some (.int .u16 70)
  h4 : w.cell? ⟨b, 4, none⟩ = some (.pointer (some ⟨q, 0, none⟩))
  h5 : w.cell? ⟨b, 5, none⟩ = some (.slice (some ⟨B, 0, none⟩) n cp)
  k2 : w.cell? ⟨q, 2, none⟩ = some (.int .u16 ver)
  k3 : w.cell? ⟨q, 3, none⟩ = some (.int .u16 lo)
  k4 : w.cell? ⟨q, 4, none⟩ = some (.int .u16 opt)
  k6 : w.cell? ⟨q, 6, none⟩ = some (.int .u16 our)
  k10 : w.cell? ⟨q, 10, none⟩ = some (.int .u8 1)
  k11 : w.cell? ⟨q, 11, none⟩ = some (.int .u8 1)
  k12 : w.cell? ⟨q, 12, none⟩ = some (.int .u32 sdu)
  k13 : w.cell? ⟨q, 13, none⟩ = some (.int .u32 tdu)
theorem CnCells.gr {a w : World} {b q B n cp : Nat} {ver lo opt our sdu tdu : Int} (h : CnCells a b q B n cp ver lo opt our sdu tdu) (g : Gr a w) : CnCells w b q B n cp ver lo opt our sdu tdu :=
  ⟨g.cell h.h0, g.cell h.h4, g.cell h.h5, g.cell h.k2, g.cell h.k3, g.cell h.k4, g.cell h.k6, g.cell h.k10, g.cell h.k11, g.cell h.k12, g.cell h.k13⟩
theorem CnCells.all {w : World} {b q B n cp : Nat} {ver lo opt our sdu tdu : Int} (h : CnCells w b q B n cp ver lo opt our sdu tdu) : (fun w' => w'.cell? ⟨b, 0, none⟩ = some (.int .u16 70) ∧ w'.cell? ⟨b, 4, none⟩ = some (.pointer (some ⟨q, 0, none⟩)) ∧ w'.cell? ⟨b, 5, none⟩ = some (.slice (some ⟨B, 0, none⟩) n cp) ∧ w'.cell? ⟨q, 2, none⟩ = some (.int .u16 ver) ∧ w'.cell? ⟨q, 3, none⟩ = some (.int .u16 lo) ∧ w'.cell? ⟨q, 4, none⟩ = some (.int .u16 opt) ∧ w'.cell? ⟨q, 6, none⟩ = some (.int .u16 our) ∧ w'.cell? ⟨q, 10, none⟩ = some (.int .u8 1) ∧ w'.cell? ⟨q, 11, none⟩ = some (.int .u8 1) ∧ w'.cell? ⟨q, 12, none⟩ = some (.int .u32 sdu) ∧ w'.cell? ⟨q, 13, none⟩ = some (.int .u32 tdu)) w :=
  ⟨h.h0, h.h4, h.h5, h.k2, h.k3, h.k4, h.k6, h.k10, h.k11, h.k12, h.k13⟩

theorem putAt_getD (xs : List Int) (o : Nat) (zs : List Int) (k : Nat) (hk : k < o ∨ o + zs.length ≤ k) : (putAt xs o zs).getD k 0 = xs.getD k 0 := by
  induction zs generalizing xs o with
  | nil => rfl
  | cons z t ih =>
    simp only [List.length_cons] at hk
    rw [putAt, ih _ _ (by omega)]
    simp only [List.getD_eq_getElem?_getD]
    rw [List.getElem?_set_ne (by omega)]
theorem putAt_be2 (xs : List Int) (o : Nat) (v : Int) (h : o + 2 ≤ xs.length) : (putAt xs o (be2 v)).getD o 0 = v / 256 % 256 ∧ (putAt xs o (be2 v)).getD (o + 1) 0 = v % 256 := by
  simp only [be2, putAt, List.getD_eq_getElem?_getD]
  constructor
  · rw [List.getElem?_set_ne (by omega), List.getElem?_set_self (by omega)]; rfl
  · rw [List.getElem?_set_self (by simp; omega)]; rfl
theorem store_getD (xs : List Int) (o : Nat) (z : Int) (k : Nat) (hk : k ≠ o) : (xs.set o z).getD k 0 = xs.getD k 0 := by
  simp only [List.getD_eq_getElem?_getD]
  rw [List.getElem?_set_ne (by omega)]

/-- The bytes of a packet CONNECT: seventy, of which two tell how long its data are; behind them the data, where they are short. -/
def RetCn (w0 : World) (data : List Int) (e : Ending) (w' : World) : Prop :=
  ∃ v Z, e = .returned v ∧ Own w0.heap.size w' v (Z ++ if data.length ≤ 230 then data else []) ∧ Z.length = 70 ∧ Z.getD 24 0 = (data.length : Int) / 256 % 256 ∧ Z.getD 25 0 = (data.length : Int) % 256 ∧ Gr w0 w'

set_option maxRecDepth 100000 in
set_option maxHeartbeats 8000000 in
theorem cn_bytes (b q B n cp : Nat) (len ver lo opt our sdu tdu : Int) (done : Bool) (data : List Int) (w : World) (hlen : 0 ≤ len ∧ len < 4294967296) (hn : data.length = n) (hn2 : n ≤ 2000)
    (hP : PkCells w b q 70 len 1 0 ver done) (hC : CnCells w b q B n cp ver lo opt our sdu tdu) (hB : Rd w (.slice (some ⟨B, 0, none⟩) n cp) data)
    (hver : 0 ≤ ver ∧ ver < 65536) (hlo : 0 ≤ lo ∧ lo < 65536) (hopt : 0 ≤ opt ∧ opt < 65536) (hour : 0 ≤ our ∧ our < 65536) (hsdu : 0 ≤ sdu ∧ sdu < 4294967296) (htdu : 0 ≤ tdu ∧ tdu < 4294967296) :
    Calls Tryd.prog 51 #[.pointer (some ⟨b, 0, none⟩)] w (RetCn w data) := by
  have HP := Lib.hid (pkt_bytes b q 70 len 1 0 ver done w (by omega) hlen (by omega) (by omega) hP)
  have HC := Lib.hid hC
  have HB := Lib.hid hB
  have hln : (headL (done && decide (315 ≤ ver)) len 1 0 (70 : Int).toNat).length = 70 := by rw [headL_length]; rfl
  generalize headL (done && decide (315 ≤ ver)) len 1 0 (70 : Int).toNat = Z0 at *
  obtain ⟨h0, h4, h5, k2, k3, k4, k6, k10, k11, k12, k13⟩ := hC
  have hcp : n ≤ cp := by obtain ⟨p, c, h, hc, _⟩ := hB; injection h with _ h2 h3; omega
  have hcm : cp ≤ 9223372036854775807 := by obtain ⟨p, c, h, _, hc, _⟩ := hB; injection h with _ h2 h3; simp only [maxLen] at hc; omega
  have hn16 : IntKind.u16.wrap (n : Int) = n := by rw [IntKind.wrap_u16]; omega
  have HN := Lib.hid hn
  clear hP hB hn
  go_enter Tryd.func51, Tryd.ntmps51
  go_wp2_with (first | (go_at_call 41; go_must (with_reducible refine HP.out.mono ?_); rintro e w0 ⟨v0, rfl, ho0, hG⟩))
  obtain ⟨g, cap, hv0, hg, hO⟩ := ho0.form (by rw [hln]; omega)
  rw [hln] at hv0
  subst hv0
  have hcap : 70 ≤ cap := by (have := hO.2.1; rw [hln] at this; exact this)
  have hcm2 : cap ≤ 9223372036854775807 := by (have := hO.2.2.1; simp only [maxLen] at this; omega)
  have hne8 : ¬ (cap = 8) := by omega
  have hne10 : ¬ (cap = 10) := by omega
  have hne12 : ¬ (cap = 12) := by omega
  have hne14 : ¬ (cap = 14) := by omega
  have hne16 : ¬ (cap = 16) := by omega
  have hne22 : ¬ (cap = 22) := by omega
  have hne24 : ¬ (cap = 24) := by omega
  have hne26 : ¬ (cap = 26) := by omega
  have hne58 : ¬ (cap = 58) := by omega
  have hne62 : ¬ (cap = 62) := by omega
  have hne66 : ¬ (cap = 66) := by omega
  clear ho0 h0 h4 h5 k2 k3 k4 k6 k10 k11 k12 k13
  obtain ⟨h0, h4, h5, k2, k3, k4, k6, k10, k11, k12, k13⟩ := HC.out.gr hG
  -- PutUint16 at 8
  go_region_held3 (fun w' => w'.cell? ⟨b, 4, none⟩ = some (.pointer (some ⟨q, 0, none⟩)) ∧ w'.cell? ⟨q, 2, none⟩ = some (.int .u16 ver)) (first | (with_reducible exact (let H := HC.out.gr (hf w hG.drew hg); ⟨H.h4, H.k2⟩)) | (with_reducible exact (let H := HC.out.gr hG.drew; ⟨H.h4, H.k2⟩)))
    ((first | (go_at_call 53; go_must (refine (put16 _ g cap Z0 8 _ _ ver hver hO.drew (by omega) (by rw [hln]; omega)).mono ?_); rintro e w1 ⟨rfl, hO, hf⟩)))
  have hG := hf w hG.drew hg
  clear hf
  have hln' : (putAt Z0 8 (be2 ver)).length = 70 := by rw [putAt_length]; exact hln
  generalize putAt Z0 8 (be2 ver) = Z1 at *
  clear hln
  have hln := hln'
  clear hln'
  clear h0 h4 h5 k2 k3 k4 k6 k10 k11 k12 k13
  obtain ⟨h0, h4, h5, k2, k3, k4, k6, k10, k11, k12, k13⟩ := HC.out.gr hG
  -- PutUint16 at 10
  go_wp2_with fail
  go_region_held3 (fun w' => w'.cell? ⟨b, 4, none⟩ = some (.pointer (some ⟨q, 0, none⟩)) ∧ w'.cell? ⟨q, 3, none⟩ = some (.int .u16 lo)) (first | (with_reducible exact (let H := HC.out.gr (hf w hG.drew hg); ⟨H.h4, H.k3⟩)) | (with_reducible exact (let H := HC.out.gr hG.drew; ⟨H.h4, H.k3⟩)))
    ((first | (go_at_call 53; go_must (refine (put16 _ g cap Z1 10 _ _ lo hlo hO.drew (by omega) (by rw [hln]; omega)).mono ?_); rintro e w2 ⟨rfl, hO, hf⟩)))
  have hG := hf w hG.drew hg
  clear hf
  have hln' : (putAt Z1 10 (be2 lo)).length = 70 := by rw [putAt_length]; exact hln
  generalize putAt Z1 10 (be2 lo) = Z2 at *
  clear hln
  have hln := hln'
  clear hln'
  clear h0 h4 h5 k2 k3 k4 k6 k10 k11 k12 k13
  obtain ⟨h0, h4, h5, k2, k3, k4, k6, k10, k11, k12, k13⟩ := HC.out.gr hG
  -- PutUint16 at 12
  go_wp2_with fail
  go_region_held3 (fun w' => w'.cell? ⟨b, 4, none⟩ = some (.pointer (some ⟨q, 0, none⟩)) ∧ w'.cell? ⟨q, 4, none⟩ = some (.int .u16 opt)) (first | (with_reducible exact (let H := HC.out.gr (hf w hG.drew hg); ⟨H.h4, H.k4⟩)) | (with_reducible exact (let H := HC.out.gr hG.drew; ⟨H.h4, H.k4⟩)))
    ((first | (go_at_call 53; go_must (refine (put16 _ g cap Z2 12 _ _ opt hopt hO.drew (by omega) (by rw [hln]; omega)).mono ?_); rintro e w3 ⟨rfl, hO, hf⟩)))
  have hG := hf w hG.drew hg
  clear hf
  have hln' : (putAt Z2 12 (be2 opt)).length = 70 := by rw [putAt_length]; exact hln
  generalize putAt Z2 12 (be2 opt) = Z3 at *
  clear hln
  have hln := hln'
  clear hln'
  clear h0 h4 h5 k2 k3 k4 k6 k10 k11 k12 k13
  obtain ⟨h0, h4, h5, k2, k3, k4, k6, k10, k11, k12, k13⟩ := HC.out.gr hG
  go_upto_if 62 with fail
  go_cut [4] from 5 to 187 (fun u wc => ∃ z : Int, u = .int .u16 z ∧ 0 ≤ z ∧ z < 65536 ∧ wc = w3)
  case first =>
    have hwr : 0 ≤ IntKind.u16.wrap sdu ∧ IntKind.u16.wrap sdu < 65536 := by rw [IntKind.wrap_u16]; omega
    by_cases hbig : (65535 : Int) < sdu
    · go_wp2_with fail
      go_meet
      exact ⟨65535, rfl, by omega, by omega, by first | rfl | trivial⟩
    · go_wp2_with fail
      go_meet
      exact ⟨_, rfl, hwr.1, hwr.2, by first | rfl | trivial⟩
  case rest =>
  obtain ⟨z1, rfl, hz1, hz2, rfl⟩ := hcut
  -- PutUint16 at 14
  go_wp2_with fail
  go_region_held3 (fun w' => w'.cell? ⟨b, 4, none⟩ = some (.pointer (some ⟨q, 0, none⟩)) ∧ w'.cell? ⟨q, 12, none⟩ = some (.int .u32 sdu)) (first | (with_reducible exact (let H := HC.out.gr (hf w hG.drew hg); ⟨H.h4, H.k12⟩)) | (with_reducible exact (let H := HC.out.gr hG.drew; ⟨H.h4, H.k12⟩)))
    ((first | (go_at_call 53; go_must (refine (put16 _ g cap Z3 14 _ _ z1 ⟨hz1, hz2⟩ hO.drew (by omega) (by rw [hln]; omega)).mono ?_); rintro e w4 ⟨rfl, hO, hf⟩)))
  have hG := hf w hG.drew hg
  clear hf
  have hln' : (putAt Z3 14 (be2 z1)).length = 70 := by rw [putAt_length]; exact hln
  generalize putAt Z3 14 (be2 z1) = Z4 at *
  clear hln
  have hln := hln'
  clear hln'
  clear h0 h4 h5 k2 k3 k4 k6 k10 k11 k12 k13
  obtain ⟨h0, h4, h5, k2, k3, k4, k6, k10, k11, k12, k13⟩ := HC.out.gr hG
  -- PutUint32 at 58
  go_wp2_with fail
  go_region_held3 (fun w' => w'.cell? ⟨b, 4, none⟩ = some (.pointer (some ⟨q, 0, none⟩)) ∧ w'.cell? ⟨q, 12, none⟩ = some (.int .u32 sdu)) (first | (with_reducible exact (let H := HC.out.gr (hf w hG.drew hg); ⟨H.h4, H.k12⟩)) | (with_reducible exact (let H := HC.out.gr hG.drew; ⟨H.h4, H.k12⟩)))
    ((first | (go_at_call 52; go_must (refine (put32 _ g cap Z4 58 _ _ sdu hsdu hO.drew (by omega) (by rw [hln]; omega)).mono ?_); rintro e w5 ⟨rfl, hO, hf⟩)))
  have hG := hf w hG.drew hg
  clear hf
  have hln' : (putAt Z4 58 (be4 sdu)).length = 70 := by rw [putAt_length]; exact hln
  generalize putAt Z4 58 (be4 sdu) = Z5 at *
  clear hln
  have hln := hln'
  clear hln'
  clear h0 h4 h5 k2 k3 k4 k6 k10 k11 k12 k13
  obtain ⟨h0, h4, h5, k2, k3, k4, k6, k10, k11, k12, k13⟩ := HC.out.gr hG
  go_upto_if 97 with fail
  go_cut [4] from 5 to 187 (fun u wc => ∃ z : Int, u = .int .u16 z ∧ 0 ≤ z ∧ z < 65536 ∧ wc = w5)
  case first =>
    have hwr : 0 ≤ IntKind.u16.wrap tdu ∧ IntKind.u16.wrap tdu < 65536 := by rw [IntKind.wrap_u16]; omega
    by_cases hbig : (65535 : Int) < tdu
    · go_wp2_with fail
      go_meet
      exact ⟨65535, rfl, by omega, by omega, by first | rfl | trivial⟩
    · go_wp2_with fail
      go_meet
      exact ⟨_, rfl, hwr.1, hwr.2, by first | rfl | trivial⟩
  case rest =>
  obtain ⟨z2, rfl, hy1, hy2, rfl⟩ := hcut
  -- PutUint16 at 16
  go_wp2_with fail
  go_region_held3 (fun w' => w'.cell? ⟨b, 4, none⟩ = some (.pointer (some ⟨q, 0, none⟩)) ∧ w'.cell? ⟨q, 13, none⟩ = some (.int .u32 tdu)) (first | (with_reducible exact (let H := HC.out.gr (hf w hG.drew hg); ⟨H.h4, H.k13⟩)) | (with_reducible exact (let H := HC.out.gr hG.drew; ⟨H.h4, H.k13⟩)))
    ((first | (go_at_call 53; go_must (refine (put16 _ g cap Z5 16 _ _ z2 ⟨hy1, hy2⟩ hO.drew (by omega) (by rw [hln]; omega)).mono ?_); rintro e w6 ⟨rfl, hO, hf⟩)))
  have hG := hf w hG.drew hg
  clear hf
  have hln' : (putAt Z5 16 (be2 z2)).length = 70 := by rw [putAt_length]; exact hln
  generalize putAt Z5 16 (be2 z2) = Z6 at *
  clear hln
  have hln := hln'
  clear hln'
  clear h0 h4 h5 k2 k3 k4 k6 k10 k11 k12 k13
  obtain ⟨h0, h4, h5, k2, k3, k4, k6, k10, k11, k12, k13⟩ := HC.out.gr hG
  -- PutUint32 at 62
  go_wp2_with fail
  go_region_held3 (fun w' => w'.cell? ⟨b, 4, none⟩ = some (.pointer (some ⟨q, 0, none⟩)) ∧ w'.cell? ⟨q, 13, none⟩ = some (.int .u32 tdu)) (first | (with_reducible exact (let H := HC.out.gr (hf w hG.drew hg); ⟨H.h4, H.k13⟩)) | (with_reducible exact (let H := HC.out.gr hG.drew; ⟨H.h4, H.k13⟩)))
    ((first | (go_at_call 52; go_must (refine (put32 _ g cap Z6 62 _ _ tdu htdu hO.drew (by omega) (by rw [hln]; omega)).mono ?_); rintro e w7 ⟨rfl, hO, hf⟩)))
  have hG := hf w hG.drew hg
  clear hf
  have hln' : (putAt Z6 62 (be4 tdu)).length = 70 := by rw [putAt_length]; exact hln
  generalize putAt Z6 62 (be4 tdu) = Z7 at *
  clear hln
  have hln := hln'
  clear hln'
  clear h0 h4 h5 k2 k3 k4 k6 k10 k11 k12 k13
  obtain ⟨h0, h4, h5, k2, k3, k4, k6, k10, k11, k12, k13⟩ := HC.out.gr hG
  -- PutUint32 at 66
  go_wp2_with fail
  go_region_held3 (fun w' => w'.cell? ⟨b, 4, none⟩ = some (.pointer (some ⟨q, 0, none⟩))) (first | (with_reducible exact (let H := HC.out.gr (hf w hG.drew hg); H.h4)) | (with_reducible exact (let H := HC.out.gr hG.drew; H.h4)))
    ((first | (go_at_call 52; go_must (refine (put32 _ g cap Z7 66 _ _ 0 (by omega) hO.drew (by omega) (by rw [hln]; omega)).mono ?_); rintro e w8 ⟨rfl, hO, hf⟩)))
  have hG := hf w hG.drew hg
  clear hf
  have hln' : (putAt Z7 66 (be4 0)).length = 70 := by rw [putAt_length]; exact hln
  generalize putAt Z7 66 (be4 0) = Z8 at *
  clear hln
  have hln := hln'
  clear hln'
  clear h0 h4 h5 k2 k3 k4 k6 k10 k11 k12 k13
  obtain ⟨h0, h4, h5, k2, k3, k4, k6, k10, k11, k12, k13⟩ := HC.out.gr hG
  -- the two signs at 18, 19
  have s18 := hO.cell 18 (by rw [hln]; omega)
  have s19 := hO.cell 19 (by rw [hln]; omega)
  have f18 := hO.free 18
  have f19 := hO.free 19
  go_wp2
  have hO := (hO.setCell 18 (by rw [hln]; omega) 79 (by omega)).setCell 19 (by rw [List.length_set, hln]; omega) 152 (by omega)
  have hG := (hG.setCell (p := ⟨g, 18, none⟩) hg (.int .u8 79)).setCell (p := ⟨g, 19, none⟩) hg (.int .u8 152)
  have hln : ((Z8.set 18 79).set 19 152).length = 70 := by rw [List.length_set, List.length_set]; exact hln
  generalize (Z8.set 18 79).set 19 152 = Y1 at *
  generalize hcc : World.setCell (World.setCell w8 _ _) _ _ = x1 at *
  clear hcc s18 s19 f18 f19
  clear h0 h4 h5 k2 k3 k4 k6 k10 k11 k12 k13
  obtain ⟨h0, h4, h5, k2, k3, k4, k6, k10, k11, k12, k13⟩ := HC.out.gr hG
  -- PutUint16 at 22
  go_wp2_with fail
  go_region_held3 (fun w' => w'.cell? ⟨b, 4, none⟩ = some (.pointer (some ⟨q, 0, none⟩)) ∧ w'.cell? ⟨q, 6, none⟩ = some (.int .u16 our)) (first | (with_reducible exact (let H := HC.out.gr (hf w hG.drew hg); ⟨H.h4, H.k6⟩)) | (with_reducible exact (let H := HC.out.gr hG.drew; ⟨H.h4, H.k6⟩)))
    ((first | (go_at_call 53; go_must (refine (put16 _ g cap Y1 22 _ _ our hour hO.drew (by omega) (by rw [hln]; omega)).mono ?_); rintro e w9 ⟨rfl, hO, hf⟩)))
  have hG := hf w hG.drew hg
  clear hf
  have hln' : (putAt Y1 22 (be2 our)).length = 70 := by rw [putAt_length]; exact hln
  generalize putAt Y1 22 (be2 our) = Z9 at *
  clear hln
  have hln := hln'
  clear hln'
  clear h0 h4 h5 k2 k3 k4 k6 k10 k11 k12 k13
  obtain ⟨h0, h4, h5, k2, k3, k4, k6, k10, k11, k12, k13⟩ := HC.out.gr hG
  -- PutUint16 at 24
  go_wp2_with fail
  go_region_held3 (fun w' => w'.cell? ⟨b, 5, none⟩ = some (.slice (some ⟨B, 0, none⟩) n cp)) (first | (with_reducible exact (let H := HC.out.gr (hf w hG.drew hg); H.h5)) | (with_reducible exact (let H := HC.out.gr hG.drew; H.h5)))
    ((first | (go_at_call 53; go_must (refine (put16 _ g cap Z9 24 _ _ (n : Int) (by omega) hO.drew (by omega) (by rw [hln]; omega)).mono ?_); rintro e w10 ⟨rfl, hO, hf⟩)))
  have hG := hf w hG.drew hg
  clear hf
  have hln' : (putAt Z9 24 (be2 (n : Int))).length = 70 := by rw [putAt_length]; exact hln
  have ha : (putAt Z9 24 (be2 (n : Int))).getD 24 0 = (n : Int) / 256 % 256 := (putAt_be2 Z9 24 _ (by rw [hln]; omega)).1
  have hb : (putAt Z9 24 (be2 (n : Int))).getD 25 0 = (n : Int) % 256 := (putAt_be2 Z9 24 _ (by rw [hln]; omega)).2
  generalize putAt Z9 24 (be2 (n : Int)) = Z10 at *
  clear hln
  have hln := hln'
  clear hln'
  clear h0 h4 h5 k2 k3 k4 k6 k10 k11 k12 k13
  obtain ⟨h0, h4, h5, k2, k3, k4, k6, k10, k11, k12, k13⟩ := HC.out.gr hG
  -- PutUint16 at 26
  go_wp2_with fail
  go_region_held3 (fun w' => w'.cell? ⟨b, 0, none⟩ = some (.int .u16 70)) (first | (with_reducible exact (let H := HC.out.gr (hf w hG.drew hg); H.h0)) | (with_reducible exact (let H := HC.out.gr hG.drew; H.h0)))
    ((first | (go_at_call 53; go_must (refine (put16 _ g cap Z10 26 _ _ 70 (by omega) hO.drew (by omega) (by rw [hln]; omega)).mono ?_); rintro e w11 ⟨rfl, hO, hf⟩)))
  have hG := hf w hG.drew hg
  clear hf
  have hln' : (putAt Z10 26 (be2 70)).length = 70 := by rw [putAt_length]; exact hln
  have ha : (putAt Z10 26 (be2 70)).getD 24 0 = (n : Int) / 256 % 256 := (putAt_getD Z10 26 _ 24 (by simp [be2])).trans ha
  have hb : (putAt Z10 26 (be2 70)).getD 25 0 = (n : Int) % 256 := (putAt_getD Z10 26 _ 25 (by simp [be2])).trans hb
  generalize putAt Z10 26 (be2 70) = Z11 at *
  clear hln
  have hln := hln'
  clear hln'
  clear h0 h4 h5 k2 k3 k4 k6 k10 k11 k12 k13
  obtain ⟨h0, h4, h5, k2, k3, k4, k6, k10, k11, k12, k13⟩ := HC.out.gr hG
  have s32 := hO.cell 32 (by rw [hln]; omega)
  have s33 := hO.cell 33 (by rw [hln]; omega)
  have f32 := hO.free 32
  have f33 := hO.free 33
  have HO := Lib.hid hO
  have HG := Lib.hid hG
  have hO2 := (hO.setCell 32 (by rw [hln]; omega) 1 (by omega)).setCell 33 (by rw [List.length_set, hln]; omega) 1 (by omega)
  have hG2 := (hG.setCell (p := ⟨g, 32, none⟩) hg (.int .u8 1)).setCell (p := ⟨g, 33, none⟩) hg (.int .u8 1)
  have hR2 := HB.out.gr hG2
  have hln2 : ((Z11.set 32 1).set 33 1).length = 70 := by rw [List.length_set, List.length_set]; exact hln
  have ha2 : ((Z11.set 32 1).set 33 1).getD 24 0 = (n : Int) / 256 % 256 := (store_getD _ 33 1 24 (by omega)).trans ((store_getD _ 32 1 24 (by omega)).trans ha)
  have hb2 : ((Z11.set 32 1).set 33 1).getD 25 0 = (n : Int) % 256 := (store_getD _ 33 1 25 (by omega)).trans ((store_getD _ 32 1 25 (by omega)).trans hb)
  generalize (Z11.set 32 1).set 33 1 = Y at *
  have HO2 := Lib.hid hO2
  have HG2 := Lib.hid hG2
  have HR2 := Lib.hid hR2
  have HL2 := Lib.hid hln2
  have HAB := Lib.hid (And.intro ha2 hb2)
  clear hO2 hG2 hR2 hln2 ha2 hb2 ha hb hO hG hln HO HG
  by_cases hlt : n ≤ 230
  · go_wp2_with (first | (at_builtin; go_must (refine wpList_append_gr (w0 := w) Go.Proofs.YtoaajnhbcekglaaDoor.u8 rfl _ _ rfl HG2.out rfl (show Own w.heap.size _ (.slice (some ⟨g, 0, none⟩) 70 cap) Y by (have := HO2.out.own hg; rw [HL2.out] at this; exact this)) rfl HR2.out (by rw [HL2.out, HN.out]; omega) ?_); intro v9 w9 ho9 hg9))
    go_ret
    exact ⟨_, Y, rfl, by rw [if_pos (by rw [HN.out]; exact hlt)]; exact ho9, HL2.out, by rw [HN.out]; exact HAB.out.1, by rw [HN.out]; exact HAB.out.2, hg9⟩
  · go_wp2_with fail
    go_ret
    have ho := HO2.out.own hg
    rw [HL2.out] at ho
    exact ⟨_, Y, rfl, by rw [if_neg (by rw [HN.out]; exact hlt), List.append_nil]; exact ho, HL2.out, by rw [HN.out]; exact HAB.out.1, by rw [HN.out]; exact HAB.out.2, HG2.out⟩
end Go.Proofs.YtoaajnhbcekglaaDoor
