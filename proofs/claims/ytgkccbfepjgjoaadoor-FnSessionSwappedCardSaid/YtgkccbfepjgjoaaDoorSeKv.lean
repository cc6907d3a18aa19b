/- FnSessionKeyVal: the walk of the law. -/
import Derived.Test.YtgkccbfepjgjoaaDoorSeMi
import Derived.Test.YtgkccbfepjgjoaaDoorSeGn
namespace Go.Proofs.YtgkccbfepjgjoaaDoor
open Go Go.RowKit

theorem chunks_count (c : Nat) : ∀ (f : Nat) (l : List Int), (chunks c f l).length ≤ f
  | 0, l => by simp [chunks]
  | f + 1, l => by
    unfold chunks
    by_cases e : l = []
    · rw [if_pos e]; simp
    · rw [if_neg e]
      have := chunks_count c f (l.drop c)
      simp only [List.length_cons]
      omega
theorem clrB_len (big : Bool) (c : Nat) (hc : 1 ≤ c) (hc2 : c ≤ 252) (l : List Int) : (clrB big c l).length ≤ 257 * l.length + 2 := by
  unfold clrB
  split
  · simp; omega
  · have h1 := (partB_len big _ (chunks_len c hc (by omega) l.length l)).1
    have h2 := chunks_count c l.length l
    simp only [List.length_append, List.length_cons, List.length_nil]
    have : 257 * (chunks c l.length l).length ≤ 257 * l.length := Nat.mul_le_mul_left _ h2
    omega
theorem dlcB_len (big : Bool) (c : Nat) (hc : 1 ≤ c) (hc2 : c ≤ 252) (l : List Int) : (dlcB big c l).length ≤ 257 * l.length + 5 := by
  unfold dlcB
  split
  · simp
  · have h1 := clrB_len big c hc hc2 l
    have h2 := pkB_len l.length
    rw [List.length_append]
    omega
theorem Dlc.short {big : Bool} {r : List Int} {o : Option (List Int × List Int)} (h : Dlc big r o) : PkShort r := by
  cases h <;> assumption

/-- A key, a value and a flag are written. -/
theorem put_kv (big : Bool) (c : Nat) (k l : List Int) (f : Nat) (x : Pt) (hx : x.k = 4) (hd : x.d = k) (ho : x.o = l) (hfl : x.fl = (f : Int)) (hk : k.length ≤ 10000) (hl : l.length ≤ 10000) (hf : f < 256) (hc1 : 1 ≤ c) (hc2 : c ≤ 252) :
    Puts big c x (dlcB big c k ++ dlcB big c l ++ pkB f) := by
  refine Puts.kv hx fun s xs v u w hS hv ha hu hb hlim => ?_
  rw [hd] at hv
  rw [ho] at hu
  rw [hfl]
  have h1 := dlcB_len big c hc1 hc2 k
  have h2 := dlcB_len big c hc1 hc2 l
  exact putKeyVal s big c xs k l f v u w hS hv ha hu hb hk hl hf hc1 hc2 hlim (by omega) (by omega)

set_option maxRecDepth 100000 in
set_option maxHeartbeats 4000000 in
theorem law_kv (v u : Value) (k l : List Int) (f : Nat) (big : Bool) (E : Value) (w : World) (hv : Rd w v k) (hu : Rd w u l) (hf : f < 256) (hE : EndE w E) :
    Calls Tryd.prog 4 #[v, u, .int .u8 f, .bool big] w (RetT w) := by
  have HE := Lib.hid hE
  have HL := fun W h => Lib.hid (sessionLive E W h)
  obtain ⟨n, hn⟩ : ∃ n, k.length = n := ⟨_, rfl⟩
  obtain ⟨m, hm⟩ : ∃ m, l.length = m := ⟨_, rfl⟩
  have HV := Lib.hid hv
  have HU := Lib.hid hu
  obtain ⟨p, c, rfl, hlc, hcm, _⟩ := id hv
  obtain ⟨p2, c2, rfl, hlc2, hcm2, _⟩ := id hu
  rw [hn] at hlc HV ⊢
  rw [hm] at hlc2 HU ⊢
  have hcm3 : c ≤ 9223372036854775807 := by simp only [maxLen] at hcm; omega
  have hcm4 : c2 ≤ 9223372036854775807 := by simp only [maxLen] at hcm2; omega
  have HN := Lib.hid hn
  have HM := Lib.hid hm
  clear hn hm hv hu hE hcm hcm2
  by_cases hb1 : 2147483647 < n ∨ 2147483647 < m
  · by_cases h1 : 2147483647 < n <;> by_cases h2 : 2147483647 < m <;> try (exfalso; omega)
    all_goals
      go_enter Tryd.func4, Tryd.ntmps4
      go_wp2_with fail
      go_ret
      exact ⟨rfl, Gr.refl _⟩
  obtain ⟨hb1, hb2⟩ : n ≤ 2147483647 ∧ m ≤ 2147483647 := by omega
  by_cases hs1 : 1000 < n ∨ 1000 < m
  · by_cases h1 : 1000 < n <;> by_cases h2 : 1000 < m <;> try (exfalso; omega)
    all_goals
      go_enter Tryd.func4, Tryd.ntmps4
      go_wp2_with (first
        | (go_at_call 14; go_must (refine (HL _ (HE.out)).out.mono ?_); rintro e w4 ⟨rfl, hg4⟩))
      go_ret
      exact ⟨rfl, hg4⟩
  obtain ⟨hs1, hs2⟩ : n ≤ 1000 ∧ m ≤ 1000 := by omega
  have hkl : k.length ≤ 10000 := by rw [HN.out]; omega
  have hll : l.length ≤ 10000 := by rw [HM.out]; omega
  obtain ⟨outs, hout⟩ : ∃ outs, dlcB big 64 k ++ dlcB big 64 l ++ pkB f = outs := ⟨_, rfl⟩
  have holen : outs.length ≤ 10000000 := by
    rw [← hout]
    have h1 := dlcB_len big 64 (by omega) (by omega) k
    have h2 := dlcB_len big 64 (by omega) (by omega) l
    have h3 := pkB_len f
    have h4 := HN.out
    have h5 := HM.out
    simp only [List.length_append]
    omega
  have hput : PutAll big 64 [⟨4, k, l, 0, 0, 0, f, false, false⟩] outs := by
    have h := PutAll.cons (put_kv big 64 k l f ⟨4, k, l, 0, 0, 0, f, false, false⟩ rfl rfl rfl rfl hkl hll hf (by omega) (by omega)) PutAll.nil
    rw [List.append_nil, hout] at h
    exact h
  have hrun : Runs big [⟨3, 0, false, false⟩, ⟨3, 0, false, false⟩, ⟨4, 4, true, true⟩] outs [⟨true, k, [], 0, ⟨#[]⟩⟩, ⟨true, l, [], 0, ⟨#[]⟩⟩, ⟨true, [], [], f, ⟨#[]⟩⟩] (some []) := by
    have d1 := dlc_back big 64 (by omega) (by omega) k (dlcB big 64 l ++ pkB f) hkl
    have d2 := dlc_back big 64 (by omega) (by omega) l (pkB f) hll
    obtain ⟨q1, q2⟩ := pk_back f (by omega) []
    rw [List.append_nil] at q1 q2
    rw [← List.append_assoc, hout] at d1
    exact Runs.cons (fun s ch E w h => got_dlc s big ch E outs _ k 0 false false w h d1.short d1 (by omega) (by omega)) rfl
      (Runs.cons (fun s ch E w h => got_dlc s big ch E _ _ l 0 false false w h d2.short d2 (by omega) (by omega)) rfl
        (Runs.cons (fun s ch E w h => got_i64c s big ch E _ _ f 4 true w h q1 q2 (by omega)) rfl (Runs.nil _)))
  have HCV := fun W h => Lib.hid (clone (.slice p n c) k W h (by omega))
  have HCU := fun W h => Lib.hid (clone (.slice p2 m c2) l W h (by omega))
  have HCO := fun v W h => Lib.hid (clone v outs W h (by omega))
  have HP := fun W v h => Lib.hid (sessionPut v [⟨4, k, l, 0, 0, 0, f, false, false⟩] big 64 outs W h (by simp) (by intro x hx; simp at hx; subst hx; exact ⟨hkl, hll⟩) hput (by omega))
  have HG := fun W u v hE hu hv => Lib.hid (sessionGet u v outs [⟨3, 0, false, false⟩, ⟨3, 0, false, false⟩, ⟨4, 4, true, true⟩] big _ _ E W hE hu (by omega) hv (by simp) hrun)
  have tok1 : True := trivial
  have tok2 : True := trivial
  clear hput hrun hout holen hkl hll
  go_enter Tryd.func4, Tryd.ntmps4
  go_wp2_with (first
    | (go_at_call 16; have _t := tok1; go_must (refine (HCV _ HV.out).out.mono ?_); rintro e w1 ⟨u1, rfl, ho1, hg1⟩; obtain ⟨y1, z1, rfl, _⟩ := id ho1.rd; have HO1 := Lib.hid ho1; clear tok1 _t ho1)
    | (go_at_call 16; have _t := tok2; go_must (refine (HCU w1 (HU.out.gr hg1)).out.mono ?_); rintro e w2 ⟨u2, rfl, ho2, hg2⟩; obtain ⟨y2, z2, rfl, _⟩ := id ho2.rd; have hG2 := hg1.trans hg2; have HO2 := Lib.hid ho2; have HO1 := Lib.hid (HO1.out.gr hg2); clear tok2 _t ho2)
    | (go_at_call 15; go_must (refine (HP _ _ (RdPt.one ⟨4, k, l, 0, 0, 0, f, false, false⟩ _ _ (heap_new_at _ _ (by first | rfl | simp)) (HO1.out.rd.gr ((Gr.refl _).alloc _)) (HO2.out.rd.gr ((Gr.refl _).alloc _)))).out.mono ?_); rintro e w3 ⟨u3, rfl, ho3, hg3⟩; have hG3 := (hG2.alloc _).trans hg3; have HO3 := Lib.hid ho3.rd; clear ho3)
    | (go_at_call 16; go_must (refine (HCO _ _ HO3.out).out.mono ?_); rintro e w4 ⟨u4, rfl, ho4, hg4⟩; have hG4 := hG3.trans hg4; have HO4 := Lib.hid ho4.rd; clear ho4)
    | (go_at_call 13; go_must (refine (HG _ _ _ (HE.out.gr (hG4.alloc _)) (HO4.out.gr ((Gr.refl _).alloc _)) (RdSt.of [⟨3, 0, false, false⟩, ⟨3, 0, false, false⟩, ⟨4, 4, true, true⟩] (heap_new_at _ _ (by first | rfl | simp)) (by simp))).out.mono ?_); rintro e w5 ⟨u5, u6, l5, rfl, hO5, ho5, hl5, hg5⟩; obtain rfl := hl5 _ rfl; have hG5 := (hG4.alloc _).trans hg5; obtain ⟨gb, gc, rfl, hgc, hgm, _, hat⟩ := hO5.rows (by simp); obtain ⟨d0, o0, h0, _⟩ := hat 0 _ rfl; obtain ⟨d1, o1, h1, _⟩ := hat 1 _ rfl; obtain ⟨d2, o2, h2, _⟩ := hat 2 _ rfl; obtain ⟨pl, cl, rfl, _, hclm, _⟩ := id ho5.rd; have c00 : w5.cell? ⟨gb, 0, none⟩ = some (.bool true) := h0.c0; have c01 : w5.cell? ⟨gb, 1, none⟩ = some d0 := h0.c1; have c10 : w5.cell? ⟨gb, 5, none⟩ = some (.bool true) := h1.c0; have c11 : w5.cell? ⟨gb, 6, none⟩ = some d1 := h1.c1; have c20 : w5.cell? ⟨gb, 10, none⟩ = some (.bool true) := h2.c0; have c23 : w5.cell? ⟨gb, 13, none⟩ = some (.int .i64 f) := h2.c3; have R0 := Lib.hid h0.rd; have R1 := Lib.hid h1.rd; have tok3 : True := trivial; clear hat h0 h1 h2 ho5 hO5 hl5)
    | (go_at_call 17; have _t := tok3; go_must (refine (equal_same _ _ k _ R0.out (HV.out.gr hG5)).mono ?_); rintro e w6 ⟨rfl, rfl⟩; clear tok3 _t)
    | (go_at_call 17; go_must (refine (equal_same _ _ l _ R1.out (HU.out.gr hG5)).mono ?_); rintro e w6 ⟨rfl, rfl⟩)
    | (go_at_call 14; go_must (refine (HL _ (HE.out.gr hG5)).out.mono ?_); rintro e w8 ⟨rfl, hg8⟩))
  go_ret
  exact ⟨rfl, hG5.trans hg8⟩

theorem law_kv_z (v u : Value) (k l : List Int) (f : Int) (big : Bool) (w : World) (hv : Rd w v k) (hu : Rd w u l) (hf : 0 ≤ f ∧ f < 256) (hE : ∃ E, EndE w E) :
    Calls Tryd.prog 4 #[v, u, .int .u8 f, .bool big] w (RetT w) := by
  obtain ⟨E, hE⟩ := hE
  have := law_kv v u k l f.toNat big E w hv hu (by omega) hE
  rwa [Int.toNat_of_nonneg hf.1] at this
end Go.Proofs.YtgkccbfepjgjoaaDoor
