/- EncodeDouble of a whole number: in plain words, and the walk. -/
import Derived.Test.YtoachnjapfakdaaGreatDoorNdJ
import Derived.Lib.SmallJoins
namespace Go.Proofs.YtoachnjapfakdaaGreatDoor
open Go Go.RowKit

theorem nums_of {l : List Int} (hl : Byt l) : nums (Lib.bytesOf l) = l := by
  induction l with
  | nil => rfl
  | cons a t ih =>
    have := ih (fun x hx => hl x (by simp [hx]))
    have ha := hl a (by simp)
    simp only [nums, Lib.bytesOf, List.map_cons] at this ⊢
    rw [this]
    congr 1
    simp
    omega
theorem bytes_of_str2 (T : List Int) (hT : Byt T) (w : World) (hl : T.length ≤ 1000) :
    ∃ c W2, (convert 9 22 (.string (⟨(Lib.bytesOf T).toArray⟩ : ByteArray))).run Tryz.prog w = .ok (.slice (some ⟨w.heap.size, 0, none⟩) T.length c) W2 ∧ RdAt W2 w.heap.size 0 T ∧ Gr w W2 ∧ T.length ≤ c ∧ c ≤ maxLen ∧
      ∀ j, j < T.length → W2.frozen? ⟨w.heap.size, j, none⟩ = false := by
  have hbl : (Lib.bytesOf T).length = T.length := by simp [Lib.bytesOf]
  have h := run_bytes_of_string (P := Tryz.prog) w 9 22 5 ⟨(Lib.bytesOf T).toArray⟩ Tryz.underlying9 Tryz.underlying22 Tryz.underlying5
  have hs : (⟨(Lib.bytesOf T).toArray⟩ : ByteArray).size = T.length := by rw [← hbl]; simp [ByteArray.size]
  rw [hs] at h
  refine ⟨_, _, h, ?_, (Gr.refl w).drew.alloc _, grownCap_ge _ _ _ _, grownCap_le_maxLen _ _ _ _ (by simp only [maxLen]; omega), fun j hj => ?_⟩
  · have hn := nums_of hT
    refine ⟨fun i hi => ?_, hT⟩
    rw [Nat.zero_add]
    refine (blk_cell (show ((w.drew).alloc _).heap[w.heap.size]? = some _ from heap_alloc_new w.drew _) i).trans ?_
    unfold bytesRow
    rw [Array.getElem?_append_left (by simp; omega)]
    have hi' : i < (Lib.bytesOf T).length := by omega
    have hg : T.getD i 0 = ((Lib.bytesOf T)[i].toNat : Int) := by
      conv => lhs; rw [← hn]
      simp [nums, List.getD_eq_getElem?_getD, List.getElem?_eq_getElem hi']
    rw [hg]
    simp [List.getElem?_eq_getElem hi']
  · have hb : ((w.drew).alloc (.cells (bytesRow ⟨(Lib.bytesOf T).toArray⟩ (grownCap w T.length 0 5)) 5 ((bytesRow ⟨(Lib.bytesOf T).toArray⟩ (grownCap w T.length 0 5)).size, (bytesRow ⟨(Lib.bytesOf T).toArray⟩ (grownCap w T.length 0 5)).size + 1))).heap[w.heap.size]? = some _ := heap_alloc_new w.drew _
    have hsz : j < (bytesRow ⟨(Lib.bytesOf T).toArray⟩ (grownCap w T.length 0 5)).size := by
      unfold bytesRow; simp; omega
    simp only [World.frozen?, hb]
    simp; omega

theorem atoi_exp : ∀ E : Fin 18, Lib.atoi (Lib.bytesOf [43, 48 + (E.val : Int) / 10, 48 + (E.val : Int) % 10]) = some (E.val : Int) := by decide +kernel
theorem rd_cut {w : World} {b o i : Nat} {xs : List Int} (h : RdAt w b o xs) (hi : i + 1 ≤ xs.length) : RdAt (w.setCells b (o + i) ((xs.drop (i + 1)).map (Value.int .u8))) b o (xs.take i ++ xs.drop (i + 1)) := by
  have hl : (xs.take i).length = i := by rw [List.length_take]; omega
  refine ⟨fun j hj => ?_, byt_append (fun x hx => h.byt x (List.mem_of_mem_take hx)) (fun x hx => h.byt x (List.mem_of_mem_drop hx))⟩
  rw [List.length_append, hl, List.length_drop] at hj
  by_cases hji : j < i
  · rw [World.cell?_setCells_out b _ _ _ _ (fun _ _ => Or.inl (by simp; omega)), h.cell j (by omega)]
    rw [List.getD_eq_getElem?_getD, List.getD_eq_getElem?_getD, List.getElem?_append_left (by omega), List.getElem?_take_of_lt hji]
  · obtain ⟨k, rfl⟩ : ∃ k, j = i + k := ⟨j - i, by omega⟩
    have hk : k < ((xs.drop (i + 1)).map (Value.int .u8)).length := by rw [List.length_map, List.length_drop]; omega
    have := World.cell?_setCells_in b ((xs.drop (i + 1)).map (Value.int .u8)) (o + i) w (fun t ht => by
      rw [List.length_map, List.length_drop] at ht
      rw [Nat.add_assoc, h.cell (i + t) (by omega)]; rfl) k hk
    rw [← Nat.add_assoc, this]
    rw [List.getD_eq_getElem?_getD, List.getElem?_append_right (by omega), hl, Nat.add_sub_cancel_left]
    have hk2 : i + 1 + k < xs.length := by omega
    simp [List.getElem?_eq_getElem hk2]

theorem order_ne (s : Bool) {m : Nat} {e : Int} (h : Nm m e) : (FloatKind.f64.format.order (fw s m e) 0 == some .eq) = false := by
  unfold Ieee.Format.order
  rw [read_fw h, show FloatKind.f64.format.read 0 = .number false 0 (-1074) from by decide +kernel]
  simp only [Ieee.Datum.order]
  have h1 := h.lo
  have hp : 0 < m <<< (e - min e (-1074)).toNat := by rw [Nat.shiftLeft_eq]; exact Nat.mul_pos (by omega) (Nat.two_pow_pos _)
  have hz : Ieee.signed false 0 (-1074 - min e (-1074)).toNat = 0 := by simp [Ieee.signed]
  rw [hz]
  rw [beq_eq_false_iff_ne]
  intro hh
  injection hh with hh
  rw [Std.compare_eq_iff_eq] at hh
  unfold Ieee.signed at hh
  split at hh <;> omega
theorem fn_ne (s : Bool) {n : Nat} (h0 : 0 < n) (h : n < 9007199254740992) : (FloatKind.f64.format.order (fn s n) 0 == some .eq) = false := order_ne s (fn_nm h0 h).2

/-- The text ahead of the exponent. -/
def mantText (neg : Bool) (X : List Int) : List Int := (if neg then [45] else []) ++ ([X.getD 0 0] ++ (if X.length ≤ 1 then [] else [46] ++ X.drop 1))
theorem expText_eq (neg : Bool) (X : List Int) (n : Nat) : expText neg X n = mantText neg X ++ [101, 43, 48 + (n - 1 : Int) / 10, 48 + (n - 1 : Int) % 10] := by
  unfold expText mantText
  simp only [List.append_assoc]
  rfl

set_option maxRecDepth 100000 in
set_option maxHeartbeats 800000 in
theorem encWalk (neg dot : Bool) (b E ke S lB : Nat) (T B X : List Int) (y0 a1 a2 : Int) (w : World)
    (HF : Calls Tryz.prog 20 #[.float .f64 b, .int .u8 101, .int .i64 (-1), .int .i64 64] w fun e w' => e = .returned (.string ⟨(Lib.bytesOf T).toArray⟩) ∧ Gr w w')
    (hz : (FloatKind.f64.format.order b 0 == some .eq) = false) (hTl : T.length = ke + 4) (hke : 1 ≤ ke ∧ ke ≤ 40) (hTb : Byt T) (h101 : T.getD ke 0 = 101) (hb101 : ∀ j, j < ke → T.getD j 0 ≠ 101)
    (htl : T.drop (ke + 1) = [43, a1, a2]) (hat : Lib.atoi (Lib.bytesOf [43, a1, a2]) = some (E : Int)) (hE : E ≤ 17) (hy : T.getD 0 0 = y0) (hng : (y0 == 45) = neg)
    (hB : (T.take ke).drop (if neg then 1 else 0) = B) (hlB : B.length = lB) (hlk : lB + (if neg then 1 else 0) = ke)
    (hdot : dot = true → 2 ≤ lB ∧ B.getD 0 0 ≠ 46 ∧ B.getD 1 0 = 46 ∧ B.take 1 ++ B.drop 2 = X ∧ S + 1 = lB) (hnodot : dot = false → (∀ j, j < lB → B.getD j 0 ≠ 46) ∧ B = X ∧ S = lB)
    (hXl : X.length = S) (hS : 1 ≤ S ∧ S ≤ 18) (hXd : Dig X) :
    Calls Tryz.prog 11 #[.float .f64 b] w fun e w' => ∃ u, e = .returned (.tuple #[u, .nilIface]) ∧ Own w.heap.size w' u (numForm neg X (E : Int)) ∧ Gr w w' := by
  have HF := Lib.hid HF
  have HC := fun w1 => Lib.hid (bytes_of_str2 T hTb w1 (by omega))
  have hza := fun g c w1 (h : RdAt w1 g 0 T) (h1 : c ≤ maxLen) (h2 : ke + 4 ≤ c) => Lib.hid (zzAt g 0 (ke + 4) c ke T 101 w1 h hTl h1 h2 (by omega) h101 hb101)
  have htlR := fun g c w1 (h : RdAt w1 g 0 T) (h1 : c ≤ maxLen) (h2 : ke + 4 ≤ c) => Lib.hid (show (convert 22 9 (.slice (some ⟨g, ke + 1, none⟩) 3 (c - (ke + 1)))).run Tryz.prog w1 = .ok (.string ⟨(Lib.bytesOf [43, a1, a2]).toArray⟩) w1 from by
    have hd := h.drop (ke + 1)
    rw [htl, Nat.zero_add] at hd
    exact (RdAt.rd (n := 3) (c := c - (ke + 1)) hd rfl (by omega) (by simp only [maxLen] at h1 ⊢; omega)).conv)
  have hA := fun w1 => Lib.hid (Tryz.strconv_Atoi ⟨(Lib.bytesOf [43, a1, a2]).toArray⟩ (E : Int) (by simp [ByteArray.size, Lib.bytesOf]) hat w1)
  have hBR := fun g w1 (h : RdAt w1 g 0 T) => Lib.hid (show RdAt w1 g (if neg then 1 else 0) B from by
    have hd := (h.take ke).drop (if neg then 1 else 0)
    rw [hB, Nat.zero_add] at hd; exact hd)
  have hk0 := fun g w1 (h : RdAt w1 g 0 T) => Lib.hid (show w1.cell? ⟨g, 0, none⟩ = some (.int .u8 y0) from by
    have c := h.cell 0 (by omega)
    rw [Nat.zero_add, hy] at c; exact c)
  obtain ⟨hke1, hke2⟩ := hke
  obtain ⟨hS1, hS2⟩ := hS
  have HXL := Lib.hid hXl
  have HXD := Lib.hid hXd
  have HLB := Lib.hid hlB
  have HTL := Lib.hid hTl
  clear hTb h101 hb101 htl hat hB hXl hXd hlB hTl hy
  rcases neg with _ | _
  all_goals simp only [Bool.false_eq_true, if_false, if_true, Nat.add_zero] at hlk hBR
  all_goals rcases dot with _ | _
  · obtain ⟨n1, n2, n3⟩ := hnodot rfl
    have hzn := fun g o c w1 (h : RdAt w1 g o B) (h1 : c ≤ maxLen) (h2 : lB ≤ c) => Lib.hid (zzNo g o lB c B 46 w1 h HLB.out h1 h2 n1)
    subst n2
    subst n3
    subst hlk
    clear hdot hnodot n1
    have hTN := fun g o c w1 (h : RdAt w1 g o B) (h1 : c ≤ maxLen) (h2 : S ≤ c) => Lib.hid (toNumber g o S c B false E w1 h HLB.out hS1 (by omega) h2 h1 HXD.out (by omega))
    go_enter Tryz.func11, Tryz.ntmps11
    go_wp2_with (first
      | (go_at_call 20; refine HF.out.mono ?_; rintro e w1 ⟨rfl, hg1⟩; obtain ⟨c, W2, hcv, hr, hg2, hc1, hc2, hfr⟩ := (HC w1).out; rw [HTL.out] at hcv hc1 hfr; have hcm : c ≤ 9223372036854775807 := (by simp only [maxLen] at hc2; omega); obtain ⟨g, hg⟩ : ∃ g, w1.heap.size = g := ⟨_, rfl⟩; rw [hg] at hcv hr hfr; have HR := Lib.hid hr; have HG := Lib.hid (hg1.trans hg2); have HFR := Lib.hid hfr; have HCM := Lib.hid hc2; have hgB : w.heap.size ≤ g := hg ▸ hg1.size; have hgL : g < W2.heap.size := World.block_lt_of_cell? W2 _ (hr.cell 0 (by rw [HTL.out]; omega)); clear hr hg1 hg2 hfr hc2 hg; have hcv2 := (htlR _ _ _ HR.out HCM.out hc1).out; have k0 := (hk0 _ _ HR.out).out)
      | (go_at_call 21; have hk4 := HG3; go_must (refine (hzn _ _ _ _ ((hBR _ _ (HR.out.gr HG3.out)).out) (by have := HCM.out; simp only [maxLen] at this ⊢; omega) (by omega)).out.mono ?_); rintro e w4 ⟨rfl, hw4⟩; obtain rfl := hw4)
      | (go_at_call 21; go_must (refine (hza _ _ _ HR.out HCM.out hc1).out.mono ?_); rintro e w4 ⟨rfl, hw4⟩; obtain rfl := hw4)
      | (go_at_call 22; go_must (refine (hA _).out.mono ?_); rintro e w3 ⟨rfl, t3, hw3⟩; have HG3 := Lib.hid (show Gr W2 w3 from by rw [hw3]; exact Joins.below_bytesWorld _ _ _ _ (Nat.le_refl _)); clear hw3 hcv2 k0; have k0 := (hk0 _ _ (HR.out.gr HG3.out)).out)
      | (go_at_call 23; go_must (refine (hTN _ _ _ _ ((hBR _ _ (HR.out.gr HG3.out)).out) (by have := HCM.out; simp only [maxLen] at this ⊢; omega) (by omega)).out.mono ?_); rintro e w5 ⟨u, rfl, hou, hg5⟩))
    have hG3 := HG.out.trans HG3.out
    go_ret2
    exact ⟨_, rfl, hou.mono hG3.size, hG3.trans hg5⟩
  · obtain ⟨n1, n2, n3, n4, n5⟩ := hdot rfl
    have hzn := fun g o c w1 (h : RdAt w1 g o B) (h1 : c ≤ maxLen) (h2 : lB ≤ c) => Lib.hid (zzAt g o lB c 1 B 46 w1 h HLB.out h1 h2 (by omega) n3 (fun j hj => by rw [show j = 0 from by omega]; exact n2))
    have hS2 : 2 ≤ S + 1 := by omega
    have HX := Lib.hid n4
    subst n5
    subst hlk
    obtain ⟨i0, hi0, _, hi2, _⟩ := info_parts Go.Proofs.YtoachnjapfakdaaGreatDoor.u8.info
    clear hdot hnodot n1 n2 n3 n4
    have hTN := fun g o c w1 m (hm : m = S) (h : RdAt w1 g o X) (h1 : c ≤ maxLen) (h2 : S ≤ c) => Lib.hid (toNumber g o m c X false E w1 h (HXL.out.trans hm.symm) (by omega) (by omega) (by omega) h1 HXD.out (by omega))
    go_enter Tryz.func11, Tryz.ntmps11
    go_wp2_with (first
      | (go_at_call 20; refine HF.out.mono ?_; rintro e w1 ⟨rfl, hg1⟩; obtain ⟨c, W2, hcv, hr, hg2, hc1, hc2, hfr⟩ := (HC w1).out; rw [HTL.out] at hcv hc1 hfr; have hcm : c ≤ 9223372036854775807 := (by simp only [maxLen] at hc2; omega); obtain ⟨g, hg⟩ : ∃ g, w1.heap.size = g := ⟨_, rfl⟩; rw [hg] at hcv hr hfr; have HR := Lib.hid hr; have HG := Lib.hid (hg1.trans hg2); have HFR := Lib.hid hfr; have HCM := Lib.hid hc2; have hgB : w.heap.size ≤ g := hg ▸ hg1.size; have hgL : g < W2.heap.size := World.block_lt_of_cell? W2 _ (hr.cell 0 (by rw [HTL.out]; omega)); clear hr hg1 hg2 hfr hc2 hg; have hcv2 := (htlR _ _ _ HR.out HCM.out hc1).out; have k0 := (hk0 _ _ HR.out).out)
      | (go_at_call 21; have hk4 := HG3; go_must (refine (hzn _ _ _ _ ((hBR _ _ (HR.out.gr HG3.out)).out) (by have := HCM.out; simp only [maxLen] at this ⊢; omega) (by omega)).out.mono ?_); rintro e w4 ⟨rfl, hw4⟩; obtain rfl := hw4)
      | (go_at_call 21; go_must (refine (hza _ _ _ HR.out HCM.out hc1).out.mono ?_); rintro e w4 ⟨rfl, hw4⟩; obtain rfl := hw4)
      | (go_at_call 22; go_must (refine (hA _).out.mono ?_); rintro e w3 ⟨rfl, t3, hw3⟩; have HG3 := Lib.hid (show Gr W2 w3 from by rw [hw3]; exact Joins.below_bytesWorld _ _ _ _ (Nat.le_refl _)); clear hw3 hcv2 k0; have k0 := (hk0 _ _ (HR.out.gr HG3.out)).out))
    have HG4 := HG.out.trans HG3.out
    have hgL3 : g < w3.heap.size := HG3.out.lt hgL
    have hRB := (hBR _ _ (HR.out.gr HG3.out)).out
    have HCE : ∀ w', Gr w3 w' → Hid (∀ j u, ((B.drop 2).map (Value.int .u8))[j]? = some u → w'.cell? ((⟨g, 2, none⟩ : Addr).add j) = some u) := fun w' hg => Lib.hid fun j u hu => by
      have hd : RdAt w' g 2 (B.drop 2) := (hRB.gr hg).drop 2
      have hj : j < (B.drop 2).length := by
        have := (List.getElem?_eq_some_iff.1 hu).1; simpa using this
      rw [Lib.addr_add, hd.cell j hj]
      rw [List.getElem?_map, List.getElem?_eq_getElem hj] at hu
      rw [List.getD_eq_getElem?_getD, List.getElem?_eq_getElem hj]
      simpa using hu
    have HSP : ∀ w', Gr w3 w' → Hid (∀ j, j < ((B.drop 2).map (Value.int .u8)).length → (w'.cell? ⟨g, 0 + 1 * 1 + j, none⟩).isSome = true ∧ w'.frozen? ⟨g, 0 + 1 * 1 + j, none⟩ = false) := fun w' hg => Lib.hid fun j hj => by
      rw [List.length_map, List.length_drop, HLB.out] at hj
      have hb := (HG3.out.trans hg).block hgL
      refine ⟨?_, ?_⟩
      · rw [show 0 + 1 * 1 + j = 0 + (1 + j) from by omega, (hRB.gr hg).cell (1 + j) (by rw [HLB.out]; omega)]; rfl
      · rw [World.frozen?_of_block hb]
        exact HFR.out _ (by omega)
    have HRX : ∀ w', Gr w3 w' → Hid (RdAt (w'.setCells g (0 + 1 * 1) ((B.drop 2).map (Value.int .u8))) g 0 X) := fun w' hg => Lib.hid (by
      have h := rd_cut (i := 1) (hRB.gr hg) (by rw [HLB.out]; omega)
      rw [HX.out] at h; exact h)
    have HLD : ((B.drop 2).map (Value.int .u8)).length = S - 1 := by rw [List.length_map, List.length_drop, HLB.out]; omega
    have HONE : ∀ u ∈ (B.drop 2).map (Value.int .u8), u.oneCell' = true := one_cells _
    replace HLD := Lib.hid HLD
    replace HONE := Lib.hid HONE
    replace HG4 := Lib.hid HG4
    replace hRB := Lib.hid hRB
    generalize (B.drop 2).map (Value.int .u8) = NW at *
    have iw : IntKind.i64.wrap 2 = 2 := rfl
    have ie1 : (c = 2) = False := eq_false (by omega)
    have ie2 : (c - 1 = 2) = False := eq_false (by omega)
    have ic1 : (1 : Int) ≤ (c : Int) := by omega
    have ic2 : (2 : Int) ≤ (S : Int) + 1 := by omega
    have ic3 : (1 : Int) ≤ ((c - 1 : Nat) : Int) := by omega
    have ic4 : (S : Int) + 1 ≤ (c : Int) := by omega
    have ic5 : (S : Int) + 1 ≤ ((c - 1 : Nat) : Int) := by omega
    clear hk4
    go_region_law (refine step_append_room rfl (.tmp 48) (.tmp 52) 22 (by rfl) 5 i0 1 Go.Proofs.YtoachnjapfakdaaGreatDoor.u8.under hi0 hi2 g 0 1 (c) (by simp [go_sem]) ⟨g, 2, none⟩ (S - 1) (c - 2) NW (by simp [go_sem]) (by rw [HLD.out]; omega) (HCE _ (by first | exact Gr.refl _ | exact (Gr.refl _).drew)).out HONE.out (by omega) (HSP _ (by first | exact Gr.refl _ | exact (Gr.refl _).drew)).out ?_)
    all_goals
      go_wp2_with (go_at_call 23; go_must (with_reducible refine (hTN _ _ _ _ _ (by omega) (HRX _ (show Gr w3 w3.drew from (Gr.refl _).drew)).out (by have := HCM.out; simp only [maxLen] at this ⊢; omega) (by omega)).out.mono ?_); rintro e w5 ⟨u, rfl, hou, hg5⟩)
      have hG5 := Gr.setCells (show Gr w w3.drew from HG4.out.drew) hgB (0 + 1 * 1) NW
      go_ret2
      exact ⟨_, rfl, hou.mono hG5.size, hG5.trans hg5⟩
  · obtain ⟨n1, n2, n3⟩ := hnodot rfl
    have hzn := fun g o c w1 (h : RdAt w1 g o B) (h1 : c ≤ maxLen) (h2 : lB ≤ c) => Lib.hid (zzNo g o lB c B 46 w1 h HLB.out h1 h2 n1)
    subst n2
    subst n3
    subst hlk
    clear hdot hnodot n1
    have hTN := fun g o c w1 (h : RdAt w1 g o B) (h1 : c ≤ maxLen) (h2 : S ≤ c) => Lib.hid (toNumber g o S c B true E w1 h HLB.out hS1 (by omega) h2 h1 HXD.out (by omega))
    go_enter Tryz.func11, Tryz.ntmps11
    go_wp2_with (first
      | (go_at_call 20; refine HF.out.mono ?_; rintro e w1 ⟨rfl, hg1⟩; obtain ⟨c, W2, hcv, hr, hg2, hc1, hc2, hfr⟩ := (HC w1).out; rw [HTL.out] at hcv hc1 hfr; have hcm : c ≤ 9223372036854775807 := (by simp only [maxLen] at hc2; omega); obtain ⟨g, hg⟩ : ∃ g, w1.heap.size = g := ⟨_, rfl⟩; rw [hg] at hcv hr hfr; have HR := Lib.hid hr; have HG := Lib.hid (hg1.trans hg2); have HFR := Lib.hid hfr; have HCM := Lib.hid hc2; have hgB : w.heap.size ≤ g := hg ▸ hg1.size; have hgL : g < W2.heap.size := World.block_lt_of_cell? W2 _ (hr.cell 0 (by rw [HTL.out]; omega)); clear hr hg1 hg2 hfr hc2 hg; have hcv2 := (htlR _ _ _ HR.out HCM.out hc1).out; have k0 := (hk0 _ _ HR.out).out)
      | (go_at_call 21; have hk4 := HG3; go_must (refine (hzn _ _ _ _ ((hBR _ _ (HR.out.gr HG3.out)).out) (by have := HCM.out; simp only [maxLen] at this ⊢; omega) (by omega)).out.mono ?_); rintro e w4 ⟨rfl, hw4⟩; obtain rfl := hw4)
      | (go_at_call 21; go_must (refine (hza _ _ _ HR.out HCM.out hc1).out.mono ?_); rintro e w4 ⟨rfl, hw4⟩; obtain rfl := hw4)
      | (go_at_call 22; go_must (refine (hA _).out.mono ?_); rintro e w3 ⟨rfl, t3, hw3⟩; have HG3 := Lib.hid (show Gr W2 w3 from by rw [hw3]; exact Joins.below_bytesWorld _ _ _ _ (Nat.le_refl _)); clear hw3 hcv2 k0; have k0 := (hk0 _ _ (HR.out.gr HG3.out)).out)
      | (go_at_call 23; go_must (refine (hTN _ _ _ _ ((hBR _ _ (HR.out.gr HG3.out)).out) (by have := HCM.out; simp only [maxLen] at this ⊢; omega) (by omega)).out.mono ?_); rintro e w5 ⟨u, rfl, hou, hg5⟩))
    have hG3 := HG.out.trans HG3.out
    go_ret2
    exact ⟨_, rfl, hou.mono hG3.size, hG3.trans hg5⟩
  · obtain ⟨n1, n2, n3, n4, n5⟩ := hdot rfl
    have hzn := fun g o c w1 (h : RdAt w1 g o B) (h1 : c ≤ maxLen) (h2 : lB ≤ c) => Lib.hid (zzAt g o lB c 1 B 46 w1 h HLB.out h1 h2 (by omega) n3 (fun j hj => by rw [show j = 0 from by omega]; exact n2))
    have hS2 : 2 ≤ S + 1 := by omega
    have HX := Lib.hid n4
    subst n5
    subst hlk
    obtain ⟨i0, hi0, _, hi2, _⟩ := info_parts Go.Proofs.YtoachnjapfakdaaGreatDoor.u8.info
    clear hdot hnodot n1 n2 n3 n4
    have hTN := fun g o c w1 m (hm : m = S) (h : RdAt w1 g o X) (h1 : c ≤ maxLen) (h2 : S ≤ c) => Lib.hid (toNumber g o m c X true E w1 h (HXL.out.trans hm.symm) (by omega) (by omega) (by omega) h1 HXD.out (by omega))
    go_enter Tryz.func11, Tryz.ntmps11
    go_wp2_with (first
      | (go_at_call 20; refine HF.out.mono ?_; rintro e w1 ⟨rfl, hg1⟩; obtain ⟨c, W2, hcv, hr, hg2, hc1, hc2, hfr⟩ := (HC w1).out; rw [HTL.out] at hcv hc1 hfr; have hcm : c ≤ 9223372036854775807 := (by simp only [maxLen] at hc2; omega); obtain ⟨g, hg⟩ : ∃ g, w1.heap.size = g := ⟨_, rfl⟩; rw [hg] at hcv hr hfr; have HR := Lib.hid hr; have HG := Lib.hid (hg1.trans hg2); have HFR := Lib.hid hfr; have HCM := Lib.hid hc2; have hgB : w.heap.size ≤ g := hg ▸ hg1.size; have hgL : g < W2.heap.size := World.block_lt_of_cell? W2 _ (hr.cell 0 (by rw [HTL.out]; omega)); clear hr hg1 hg2 hfr hc2 hg; have hcv2 := (htlR _ _ _ HR.out HCM.out hc1).out; have k0 := (hk0 _ _ HR.out).out)
      | (go_at_call 21; have hk4 := HG3; go_must (refine (hzn _ _ _ _ ((hBR _ _ (HR.out.gr HG3.out)).out) (by have := HCM.out; simp only [maxLen] at this ⊢; omega) (by omega)).out.mono ?_); rintro e w4 ⟨rfl, hw4⟩; obtain rfl := hw4)
      | (go_at_call 21; go_must (refine (hza _ _ _ HR.out HCM.out hc1).out.mono ?_); rintro e w4 ⟨rfl, hw4⟩; obtain rfl := hw4)
      | (go_at_call 22; go_must (refine (hA _).out.mono ?_); rintro e w3 ⟨rfl, t3, hw3⟩; have HG3 := Lib.hid (show Gr W2 w3 from by rw [hw3]; exact Joins.below_bytesWorld _ _ _ _ (Nat.le_refl _)); clear hw3 hcv2 k0; have k0 := (hk0 _ _ (HR.out.gr HG3.out)).out))
    have HG4 := HG.out.trans HG3.out
    have hgL3 : g < w3.heap.size := HG3.out.lt hgL
    have hRB := (hBR _ _ (HR.out.gr HG3.out)).out
    have HCE : ∀ w', Gr w3 w' → Hid (∀ j u, ((B.drop 2).map (Value.int .u8))[j]? = some u → w'.cell? ((⟨g, 3, none⟩ : Addr).add j) = some u) := fun w' hg => Lib.hid fun j u hu => by
      have hd : RdAt w' g 3 (B.drop 2) := (hRB.gr hg).drop 2
      have hj : j < (B.drop 2).length := by
        have := (List.getElem?_eq_some_iff.1 hu).1; simpa using this
      rw [Lib.addr_add, hd.cell j hj]
      rw [List.getElem?_map, List.getElem?_eq_getElem hj] at hu
      rw [List.getD_eq_getElem?_getD, List.getElem?_eq_getElem hj]
      simpa using hu
    have HSP : ∀ w', Gr w3 w' → Hid (∀ j, j < ((B.drop 2).map (Value.int .u8)).length → (w'.cell? ⟨g, 1 + 1 * 1 + j, none⟩).isSome = true ∧ w'.frozen? ⟨g, 1 + 1 * 1 + j, none⟩ = false) := fun w' hg => Lib.hid fun j hj => by
      rw [List.length_map, List.length_drop, HLB.out] at hj
      have hb := (HG3.out.trans hg).block hgL
      refine ⟨?_, ?_⟩
      · rw [show 1 + 1 * 1 + j = 1 + (1 + j) from by omega, (hRB.gr hg).cell (1 + j) (by rw [HLB.out]; omega)]; rfl
      · rw [World.frozen?_of_block hb]
        exact HFR.out _ (by omega)
    have HRX : ∀ w', Gr w3 w' → Hid (RdAt (w'.setCells g (1 + 1 * 1) ((B.drop 2).map (Value.int .u8))) g 1 X) := fun w' hg => Lib.hid (by
      have h := rd_cut (i := 1) (hRB.gr hg) (by rw [HLB.out]; omega)
      rw [HX.out] at h; exact h)
    have HLD : ((B.drop 2).map (Value.int .u8)).length = S - 1 := by rw [List.length_map, List.length_drop, HLB.out]; omega
    have HONE : ∀ u ∈ (B.drop 2).map (Value.int .u8), u.oneCell' = true := one_cells _
    replace HLD := Lib.hid HLD
    replace HONE := Lib.hid HONE
    replace HG4 := Lib.hid HG4
    replace hRB := Lib.hid hRB
    generalize (B.drop 2).map (Value.int .u8) = NW at *
    have iw : IntKind.i64.wrap 2 = 2 := rfl
    have ie1 : (c = 2) = False := eq_false (by omega)
    have ie2 : (c - 1 = 2) = False := eq_false (by omega)
    have ic1 : (1 : Int) ≤ (c : Int) := by omega
    have ic2 : (2 : Int) ≤ (S : Int) + 1 := by omega
    have ic3 : (1 : Int) ≤ ((c - 1 : Nat) : Int) := by omega
    have ic4 : (S : Int) + 1 ≤ (c : Int) := by omega
    have ic5 : (S : Int) + 1 ≤ ((c - 1 : Nat) : Int) := by omega
    clear hk4
    go_region_law (refine step_append_room rfl (.tmp 48) (.tmp 52) 22 (by rfl) 5 i0 1 Go.Proofs.YtoachnjapfakdaaGreatDoor.u8.under hi0 hi2 g 1 1 (c - 1) (by simp [go_sem]) ⟨g, 3, none⟩ (S - 1) (c - 1 - 2) NW (by simp [go_sem]) (by rw [HLD.out]; omega) (HCE _ (by first | exact Gr.refl _ | exact (Gr.refl _).drew)).out HONE.out (by omega) (HSP _ (by first | exact Gr.refl _ | exact (Gr.refl _).drew)).out ?_)
    all_goals
      go_wp2_with (go_at_call 23; go_must (with_reducible refine (hTN _ _ _ _ _ (by omega) (HRX _ (show Gr w3 w3.drew from (Gr.refl _).drew)).out (by have := HCM.out; simp only [maxLen] at this ⊢; omega) (by omega)).out.mono ?_); rintro e w5 ⟨u, rfl, hou, hg5⟩)
      have hG5 := Gr.setCells (show Gr w w3.drew from HG4.out.drew) hgB (1 + 1 * 1) NW
      go_ret2
      exact ⟨_, rfl, hou.mono hG5.size, hG5.trans hg5⟩
end Go.Proofs.YtoachnjapfakdaaGreatDoor
