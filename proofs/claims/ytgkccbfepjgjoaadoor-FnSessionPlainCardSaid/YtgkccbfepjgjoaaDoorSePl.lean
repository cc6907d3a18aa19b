/- FnSessionPlain: the walk of the law. -/
import Derived.Test.YtgkccbfepjgjoaaDoorSeYa
import Derived.Test.YtgkccbfepjgjoaaDoorSeYb
import Derived.Test.YtgkccbfepjgjoaaDoorSeYc
import Derived.Test.YtgkccbfepjgjoaaDoorSeT
import Derived.Test.YtgkccbfepjgjoaaDoorSeX
namespace Go.Proofs.YtgkccbfepjgjoaaDoor
open Go Go.RowKit

/-- What is written of one number. -/
def plainL (big : Bool) (n v : Nat) : List Int := if n = 1 then [(v : Int)] else numB big n v
theorem put_plain (z : Nat) (big : Bool) (v : Nat) (hv : v < 256 ^ szOf z) : PutAll false 64 [⟨3, [], [], 0, v, szOf z, 0, big, false⟩] (plainL big (szOf z) v) := by
  have key : Puts false 64 ⟨3, [], [], 0, v, szOf z, 0, big, false⟩ (plainL big (szOf z) v) := by
    refine Puts.uint rfl fun s xs w hS hl => ?_
    rcases (by omega : z % 4 = 0 ∨ z % 4 = 1 ∨ z % 4 = 2 ∨ z % 4 = 3) with h | h | h | h
    · have hs : szOf z = 1 := by simp [szOf, h]
      rw [hs] at hv ⊢
      exact putUint_1 s false 64 xs v big false w hS hv (by omega)
    · have hs : szOf z = 2 := by simp [szOf, h]
      rw [hs] at hv ⊢
      cases big
      · exact putUint_LE2 s false 64 xs v w hS hv (by omega)
      · exact putUint_BE2 s false 64 xs v w hS hv (by omega)
    · have hs : szOf z = 4 := by simp [szOf, h]
      rw [hs] at hv ⊢
      cases big
      · exact putUint_LE4 s false 64 xs v w hS hv (by omega)
      · exact putUint_BE4 s false 64 xs v w hS hv (by omega)
    · have hs : szOf z = 8 := by simp [szOf, h]
      rw [hs] at hv ⊢
      cases big
      · exact putUint_LE8 s false 64 xs v w hS hv (by omega)
      · exact putUint_BE8 s false 64 xs v w hS hv (by omega)
  have := PutAll.cons key PutAll.nil
  rwa [List.append_nil] at this

set_option maxRecDepth 100000 in
theorem plainPut (z : Nat) (big : Bool) (v b : Nat) (hv : v < 256 ^ szOf z) (w : World) (hb : w.cell? ⟨b, 0, none⟩ = some (.int .u8 (szOf z : Nat))) :
    Calls Tryd.prog 21 #[.int .u64 v, .bool big, .pointer (some ⟨b, 0, none⟩)] w (RetB w (plainL big (szOf z) v)) := by
  have HP := fun W u h => Lib.hid (sessionPut u [⟨3, [], [], 0, v, szOf z, 0, big, false⟩] false 64 (plainL big (szOf z) v) W h (by simp) (by simp) (put_plain z big v hv) (by
    unfold plainL
    split
    · simp
    · rw [numB_length]; unfold szOf; (repeat' split) <;> omega))
  clear hv
  generalize szOf z = n at *
  go_enter Tryd.func21, Tryd.ntmps21
  go_wp2_with (first
    | (go_at_call 15; go_must (refine (HP _ _ (RdPt.one ⟨3, [], [], 0, v, n, 0, big, false⟩ _ _ (heap_new_at _ _ (by simp)) (Rd.nil _) (Rd.nil _))).out.mono ?_); rintro e w2 ⟨u2, rfl, ho2, hg2⟩))
  go_ret
  exact ⟨_, rfl, ho2.mono (by simp), ((Gr.refl w).alloc _).trans hg2⟩

theorem plainL_len (big : Bool) (n v : Nat) (_h : 0 < n) : (plainL big n v).length = n := by
  unfold plainL
  split
  · rename_i h; rw [h]; rfl
  · exact numB_length _ _ _
theorem plainL_one (v : Nat) (hv : v < 256) : plainL true 1 v = numB true 1 v := by
  simp [plainL, numB, Lib.beBytes, Lib.leBytes]
  omega
theorem plainL_num (n v : Nat) (hv : v < 256 ^ n) : plainL true n v = numB true n v := by
  by_cases h : n = 1
  · subst h; exact plainL_one v hv
  · unfold plainL; rw [if_neg h]
theorem plainL_rev (n v : Nat) : (plainL false n v).reverse = plainL true n v := by
  unfold plainL
  split
  · rfl
  · exact numB_reverse n v
set_option maxRecDepth 100000 in
set_option maxHeartbeats 4000000 in
theorem law_plain (a b z : Nat) (ha : a < 18446744073709551616) (hb : b < 18446744073709551616) (hz : z < 256) (E : Value) (w : World) (hE : EndE w E) :
    Calls Tryd.prog 7 #[.int .u64 a, .int .u64 b, .int .u8 z] w (RetT w) := by
  have HE := Lib.hid hE
  have HL := fun W h => Lib.hid (sessionLive E W h)
  have HSA := fun W => Lib.hid (sessionSize3 z a hz ha W)
  have HSB := fun W => Lib.hid (sessionSize3 z b hz hb W)
  have HPA := fun big W q h => Lib.hid (plainPut z big (a % 256 ^ szOf z) q (Nat.mod_lt _ (Nat.pow_pos (by decide))) W h)
  have HPB := fun big W q h => Lib.hid (plainPut z big (b % 256 ^ szOf z) q (Nat.mod_lt _ (Nat.pow_pos (by decide))) W h)
  have hA : a % 256 ^ szOf z < 256 ^ szOf z := Nat.mod_lt _ (Nat.pow_pos (by decide))
  have hB : b % 256 ^ szOf z < 256 ^ szOf z := Nat.mod_lt _ (Nat.pow_pos (by decide))
  have hN : szOf z = 1 ∨ szOf z = 2 ∨ szOf z = 4 ∨ szOf z = 8 := by unfold szOf; (repeat' split) <;> omega
  have hA64 : a % 256 ^ szOf z < 18446744073709551616 := Nat.lt_of_le_of_lt (Nat.mod_le _ _) ha
  have hB64 : b % 256 ^ szOf z < 18446744073709551616 := Nat.lt_of_le_of_lt (Nat.mod_le _ _) hb
  generalize a % 256 ^ szOf z = A at *
  generalize b % 256 ^ szOf z = B at *
  generalize szOf z = N at *
  have hN0 : 0 < N := by omega
  have hN8 : N ≤ 8 := by omega
  have hcmp := cmp_be N A B hA hB
  have hxa := plainL_num N A hA
  have hxb := plainL_num N B hB
  have hba : Lib.bytesOf (plainL true N A) = Lib.beBytes N A := by rw [hxa, bytesOf_numB]; rfl
  have hbb : Lib.bytesOf (plainL true N B) = Lib.beBytes N B := by rw [hxb, bytesOf_numB]; rfl
  obtain ⟨o, ho⟩ : ∃ o, Lib.compareBytes (Lib.beBytes N A) (Lib.beBytes N B) = o := ⟨_, rfl⟩
  rw [ho] at hcmp
  have HCM := fun W v u hx hy => Lib.hid (compare v u (plainL true N A) (plainL true N B) W hx hy)
  rw [hba, hbb, ho] at HCM
  have o1 : (o < 0) = ((A : Int) < (B : Int)) := propext (hcmp.1.trans (by omega))
  have o2 : (o == 0) = ((A : Int) == (B : Int)) := by
    have : (o = 0) = ((A : Int) = (B : Int)) := propext (hcmp.2.trans (by omega))
    rw [Bool.eq_iff_iff, beq_iff_eq, beq_iff_eq, this]
  have HZ := Lib.hid (plainL_rev N A)
  have HLA := Lib.hid (plainL_len true N A hN0)
  have HLB := Lib.hid (plainL_len true N B hN0)
  have HLZ := Lib.hid (plainL_len false N A hN0)
  have iA : (A : Int) < 18446744073709551616 := by omega
  have iB : (B : Int) < 18446744073709551616 := by omega
  have iN : (N : Int) ≤ 8 := by omega
  have tok1 : True := trivial
  have tok2 : True := trivial
  have tok3 : True := trivial
  clear hE hcmp hxa hxb hba hbb ho hA hB hN
  go_enter Tryd.func7, Tryd.ntmps7
  go_wp2_with (first
    | (go_at_call 20; have _t := tok1; go_must (refine (HSA _).out.mono ?_); rintro e w1 ⟨rfl, hg1⟩; clear tok1 _t)
    | (go_at_call 20; go_must (refine (HSB _).out.mono ?_); rintro e w2 ⟨rfl, hg2⟩; have hG2 := (hg1.alloc _).trans hg2; have hc2 := hg2.cell ((blk_cell (heap_alloc_new w1 _) 0).trans rfl); clear hg2)
    | (go_at_call 21; have _t := tok2; go_must (refine (HPA true _ _ hc2).out.mono ?_); rintro e w3 ⟨ux, rfl, hox, hg3⟩; clear tok2 _t; have hG3 := hG2.trans hg3; have hc3 := hg3.cell hc2; have HX := Lib.hid hox.rd; clear hox)
    | (go_at_call 21; have _t := tok3; go_must (refine (HPB true _ _ hc3).out.mono ?_); rintro e w4 ⟨uy, rfl, hoy, hg4⟩; clear tok3 _t; have hG4 := hG3.trans hg4; have hc4 := hg4.cell hc3; have HY := Lib.hid hoy.rd; have HX4 := Lib.hid (HX.out.gr hg4); clear hoy)
    | (go_at_call 21; go_must (refine (HPA false _ _ hc4).out.mono ?_); rintro e w5 ⟨uz, rfl, hoz, hg5⟩; have hG5 := hG4.trans hg5; obtain ⟨gz, cz, hvz, hBz, hoz2⟩ := hoz.form (by rw [HLZ.out]; exact hN0); rw [HLZ.out] at hvz; subst hvz; have HRV := Lib.hid (reverse_all _ N w4 w5 gz cz hoz2 HLZ.out hN0 (by omega) hg5 hBz); clear hoz hoz2)
    | (go_at_call 22; go_must (refine HRV.out.mono ?_); rintro e w6 ⟨rfl, hoz6, hg6⟩; rw [HZ.out] at hoz6; have hG6 := hG4.trans hg6; have hc6 := hg6.cell hc4; have HZ6 := Lib.hid (show Rd w6 (.slice (some ⟨gz, 0, none⟩) N cz) (plainL true N A) by (have := hoz6.rd; rwa [HLA.out] at this)); have HX6 := Lib.hid (HX4.out.gr hg6); have HY6 := Lib.hid (HY.out.gr hg6); clear hoz6)
    | (go_at_call 23; go_must (refine (HCM _ _ _ HX6.out HY6.out).out.mono ?_); rintro e w7 ⟨rfl, h7⟩; cases h7; have hxs := HX6.out; obtain ⟨px, cx, hvx, hcx, hcxm, _⟩ := hxs; rw [HLA.out] at hvx hcx; subst hvx)
    | (go_at_call 17; go_must (refine (equal_same _ _ _ _ HX6.out HZ6.out).mono ?_); rintro e w8 ⟨rfl, rfl⟩)
    | (go_at_call 14; go_must (refine (HL _ (HE.out.gr hG6)).out.mono ?_); rintro e w9 ⟨rfl, hg9⟩))
  go_ret
  exact ⟨rfl, hG6.trans hg9⟩

theorem law_plain_z (a b z : Int) (ha : 0 ≤ a ∧ a < 18446744073709551616) (hb : 0 ≤ b ∧ b < 18446744073709551616) (hz : 0 ≤ z ∧ z < 256) (w : World) (hE : ∃ E, EndE w E) :
    Calls Tryd.prog 7 #[.int .u64 a, .int .u64 b, .int .u8 z] w (RetT w) := by
  obtain ⟨E, hE⟩ := hE
  have := law_plain a.toNat b.toNat z.toNat (by omega) (by omega) (by omega) E w hE
  rwa [Int.toNat_of_nonneg ha.1, Int.toNat_of_nonneg hb.1, Int.toNat_of_nonneg hz.1] at this
end Go.Proofs.YtgkccbfepjgjoaaDoor
