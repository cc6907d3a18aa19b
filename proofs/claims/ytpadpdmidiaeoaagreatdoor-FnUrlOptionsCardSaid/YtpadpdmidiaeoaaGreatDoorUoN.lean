/- urlSplit: the walk; slices.Sort and slices.Equal on rows of texts. -/
import Derived.Test.YtpadpdmidiaeoaaGreatDoorUoK
import Derived.Test.YtpadpdmidiaeoaaGreatDoorUrF
import Derived.Sort.OwnSorted
namespace Go.Proofs.YtpadpdmidiaeoaaGreatDoor
open Go Go.RowKit Go.Lib

def sortT (P : List (List UInt8)) : List (List UInt8) := P.mergeSort fun x y => decide (x ≤ y)
theorem sortT_len (P : List (List UInt8)) : (sortT P).length = P.length := List.length_mergeSort P
theorem slSort (B : Nat) (v : Value) (P : List (List UInt8)) (w : World) (h : OwnT B w v P) (hB : B ≤ w.heap.size) (hl : P.length ≤ 10000000) :
    Calls Tryz.prog 11 #[v] w fun e w' => e = .returned (.tuple #[]) ∧ OwnT B w' v (sortT P) ∧ Below B w w' := by
  have hR : OwnR 9 1 B w v (strRow P) := h
  rcases id hR.row.2 with ⟨rfl, h0⟩ | ⟨g, cap, cur, rfl, hg, hb, h1, h2, h3, h4⟩
  · rw [strRow_len] at h0
    obtain rfl := List.eq_nil_of_length_eq_zero h0
    refine (Tryz.slices_Sort_string_none none 0 w).mono fun e w' => ?_
    rintro ⟨rfl, rfl⟩
    exact ⟨rfl, by simpa [sortT] using h, Below.refl _ _⟩
  · rw [strRow_len] at h1 h4 ⊢
    have hrow : (P.map encStr) = (strRow P).flatten := by rw [strRow_flat]; rfl
    rw [Nat.mul_one, ← hrow] at h4
    have hH : Go.Sort.Holds encStr w g 0 P.toArray := holds_of_block hb (by simpa using h4)
    have hgl : g < w.heap.size := (Array.getElem?_eq_some_iff.1 hb).1
    refine (Tryz.slices_Sort_string g 0 cap P w hH hgl (by omega)).mono fun e w' => ?_
    rintro ⟨rfl, n, os, rfl⟩
    have hro := ownsRow_sorted (n := n) (os := os) (ts := sortT P) (sortT_len P) hg hb h1 h2 h3
    refine ⟨rfl, ⟨fun c hc => by obtain ⟨p, _, rfl⟩ := List.mem_map.1 hc; rfl, ?_⟩, Below.grown (Below.refl B w) (grownBy_sorted _) hB (fun j ej => by cases ej; exact hg)⟩
    rw [strRow_len, sortT_len, show (strRow (sortT P)).flatten = (sortT P).map encStr by rw [strRow_flat]; rfl]
    exact hro

theorem neqT : NeqAt Tryz.prog 9 (fun p : List UInt8 => Value.string (bs p)) (fun x y => decide (x = y)) :=
  ⟨fun x y w => by
    have h := (NeqAt.string Tryz.prog 9).1 (bs x) (bs y) w
    rw [h]
    show Result.ok (Value.bool (!((bs x).toList == (bs y).toList))) w = _
    rw [bs_eq], fun op a b x y w => GuardAt.string Tryz.prog 9 op a b (bs x) (bs y) w⟩
theorem allEq_eq (P Q : List (List UInt8)) : Lib.allEq (fun x y => decide (x = y)) P Q = decide (P = Q) := by
  induction P generalizing Q with
  | nil => cases Q <;> simp [Lib.allEq]
  | cons p P ih =>
    cases Q with
    | nil => simp [Lib.allEq]
    | cons q Q => simp [Lib.allEq, ih]
theorem slEqual {B1 B2 : Nat} {v u : Value} {P Q : List (List UInt8)} (w : World) (h1 : OwnT B1 w v P) (h2 : OwnT B2 w u Q) (hp : 0 < P.length) (hq : 0 < Q.length) (l1 : P.length ≤ 10000000) (l2 : Q.length ≤ 10000000) :
    Calls Tryz.prog 15 #[v, u] w fun e w' => e = .returned (.bool (decide (P = Q))) ∧ Gr w w' := by
  obtain ⟨b, c, rfl, _⟩ := h1.row hp
  obtain ⟨b', c', rfl, _⟩ := h2.row hq
  have hh := Tryz.slices_Equal (fun p : List UInt8 => Value.string (bs p)) _ neqT b 0 P.length c b' 0 Q.length c' P Q w (Nat.le_refl _) (Nat.le_refl _) (by omega) (by omega)
    (fun j hj => by rw [Nat.zero_add, h1.cell j hj]; simp [hj]) (fun j hj => by rw [Nat.zero_add, h2.cell j hj]; simp [hj])
  refine hh.mono fun e w' => ?_
  rintro ⟨rfl, q, rfl⟩
  rw [List.take_length, List.take_length, allEq_eq]
  exact ⟨rfl, (Gr.refl w).drewN q⟩
set_option maxRecDepth 100000 in
theorem slEqual0 (w : World) : Calls Tryz.prog 15 #[.slice none 0 0, .slice none 0 0] w fun e w' => e = .returned (.bool true) ∧ w' = w := by
  go_enter Tryz.func15, Tryz.ntmps15
  go_wp2
  go_loopw [13] (fun i wr => i = .int .i64 0 ∧ wr = w) (fun _ _ => 0)
  case atStart => exact ⟨rfl, rfl⟩
  case round =>
    obtain ⟨rfl, rfl⟩ := hrel
    go_wp2
    go_ret
    exact ⟨rfl, rfl⟩

set_option maxRecDepth 100000 in
set_option maxHeartbeats 4000000 in
theorem urlSplitNo (L : List UInt8) (h : (63 : UInt8) ∉ L) (hl : L.length ≤ 10000000) (w : World) :
    Calls Tryz.prog 12 #[.string (bs L)] w fun e w' => e = .returned (.tuple #[.string (bs L), .slice none 0 0]) ∧ w' = w := by
  obtain ⟨n, hn⟩ : ∃ n, L.length = n := ⟨_, rfl⟩
  have hsz : (bs L).size = n := by rw [bs_size, hn]
  have K1 : Hid (∀ k, k < n → ∀ h, ((((bs L)[k]'h).toNat : Int) != 63) = true) := Lib.hid (fun k hk hb => by
    have hkl : k < L.length := by omega
    rw [bs_get L k hb hkl, bne_iff_ne]
    intro e
    have e2 : L[k] = 63 := UInt8.toNat_inj.1 (show L[k].toNat = 63 by omega)
    exact h (e2 ▸ List.getElem_mem hkl))
  rw [hn] at hl
  clear h hn
  generalize bs L = S at *
  go_enter Tryz.func12, Tryz.ntmps12
  go_wp2
  go_loopw [10] (fun i wr => ∃ k : Nat, i = .int .i64 k ∧ k ≤ n ∧ wr = w) (fun i _ => ((n : Int) - intOf i).toNat)
  case atStart => exact ⟨0, rfl, Nat.zero_le _, rfl⟩
  case round =>
    obtain ⟨k, rfl, hk, rfl⟩ := hrel
    by_cases e : k < n
    · have k1 := K1.out k e
      go_wp2
      go_roundw
      case rel => exact ⟨k + 1, by go_num, by omega, by trivial⟩
      case measure => simp [intOf]; omega
    · obtain rfl : n = k := by omega
      go_wp2
      go_ret2
      exact ⟨rfl, rfl⟩

theorem splitL_count (c : UInt8) : ∀ L : List UInt8, (splitL c L).length = L.count c + 1
  | [] => by simp [splitL]
  | b :: L => by
    have ih := splitL_count c L
    by_cases h : b = c
    · subst h; simp [splitL, ih]
    · rw [List.count_cons_of_ne (by simpa using h), ← ih]
      simp only [splitL, if_neg h]
      cases e : splitL c L with
      | nil => exact absurd e (splitL_ne c L)
      | cons p ps => rfl
theorem splitL_take (c : UInt8) (L : List UInt8) (k : Nat) : (splitL c (L.take k)).length ≤ (splitL c L).length := by
  rw [splitL_count, splitL_count]
  have := (List.take_sublist k L).count_le c
  omega

set_option maxRecDepth 100000 in
set_option maxHeartbeats 8000000 in
theorem urlSplitAt (A R : List UInt8) (hA : (63 : UInt8) ∉ A) (hal : A.length ≤ 10000000) (hl : R.length ≤ 9000000) (hsb : (splitL 38 R).length ≤ 900000) (w : World) :
    Calls Tryz.prog 12 #[.string (bs (A ++ 63 :: R))] w fun e w' => (∃ v, e = .returned (.tuple #[.string (bs A), v]) ∧ OwnT w.heap.size w' v (sortT (splitL 38 R))) ∧ Gr w w' := by
  obtain ⟨c, W2, hcv, hrw, hg, hc1, hc2⟩ := bytes_of_str_rw R (w.alloc (.cells #[.string ⟨#[]⟩] 9)) (by simp only [maxLen]; omega)
  obtain ⟨m, hm⟩ : ∃ m, R.length = m := ⟨_, rfl⟩
  obtain ⟨a, ha⟩ : ∃ a, A.length = a := ⟨_, rfl⟩
  have hsz : (bs (A ++ 63 :: R)).size = a + 1 + m := by rw [bs_size]; simp; omega
  have hsz2 : (bs R).size = m := by rw [bs_size, hm]
  have K1 : Hid (∀ k, k < a → ∀ h, ((((bs (A ++ 63 :: R))[k]'h).toNat : Int) != 63) = true) := Lib.hid (fun k hk hb => by
    rw [bne_iff_ne]
    exact (cut_at A R 63 hA k hb).1 (by omega))
  have K2 : Hid (∀ h, (((bs (A ++ 63 :: R))[a]'h).toNat : Int) = 63) := Lib.hid (fun hb => (cut_at A R 63 hA a hb).2 ha.symm)
  obtain ⟨hx1, hx2⟩ := cut_parts A R 63
  rw [ha] at hx1 hx2
  rw [hm] at hx2
  have hcm : c ≤ 9223372036854775807 := by simp only [maxLen] at hc2; omega
  obtain ⟨H, hH⟩ : ∃ H, w.heap.size = H := ⟨_, rfl⟩
  have hHs : (w.alloc (.cells #[.string ⟨#[]⟩] 9)).heap.size = H + 1 := by simp [hH]
  rw [hHs] at hcv hrw
  have hown : OwnT H W2 (.slice (some ⟨H, 0, none⟩) 1 1) [[]] := by
    refine OwnR.gr ⟨fun c hc => by obtain ⟨p, _, rfl⟩ := List.mem_map.1 hc; rfl, ?_, .inr ⟨H, 1, #[.string ⟨#[]⟩], rfl, Nat.le_refl _, heap_new_at w _ hH.symm, Nat.le_refl _, by simp [maxLen], rfl, rfl⟩⟩ hg
    rfl
  have HRW := Lib.hid hrw
  have HG := Lib.hid (((Gr.refl w).alloc (.cells #[.string ⟨#[]⟩] 9)).trans hg)
  have HM := Lib.hid hm
  have HO := Lib.hid hown
  have HX1 := Lib.hid hx1
  have HX2 := Lib.hid hx2
  rw [hm] at hcv hc1 hl
  rw [ha] at hal
  have HHH := Lib.hid hH
  have HSB := Lib.hid hsb
  clear hsb
  clear hrw hg hc2 hm hown hHs hA ha hx1 hx2
  generalize bs (A ++ 63 :: R) = S at *
  generalize bs A = S1 at *
  obtain ⟨X, hX⟩ : ∃ X, bs R = X := ⟨_, rfl⟩
  rw [hX] at hcv hsz2 HX2
  rw [hH]
  clear hX
  go_enter Tryz.func12, Tryz.ntmps12
  go_wp2
  go_loopw [10] (fun i wr => ∃ k : Nat, i = .int .i64 k ∧ k ≤ a ∧ wr = w) (fun i _ => ((a : Int) - intOf i).toNat)
  case atStart => exact ⟨0, rfl, Nat.zero_le _, rfl⟩
  case round =>
    obtain ⟨k, rfl, hk, hwr⟩ := hrel
    obtain rfl := hwr.symm
    clear hwr
    by_cases e : k < a
    · have k1 := K1.out k e
      go_wp2
      go_roundw
      case rel => exact ⟨k + 1, by go_num, by omega, by trivial⟩
      case measure => simp [intOf]; omega
    · obtain rfl : a = k := by omega
      have k2 := K2.out
      have hx2 := HX2.out
      have i0 : (a : Int) < (a : Int) + 1 + (m : Int) := by omega
      clear K1 K2
      go_wp2
      go_loopw [24, 5] (fun i s wr' => ∃ k : Nat, i = .int .i64 k ∧ k ≤ m ∧ Hid (OwnT H wr' s (splitL 38 (R.take k))) ∧ Hid (Gr w wr') ∧ Hid (RwAt wr' (H + 1) (nums R))) (fun i _ _ => ((m : Int) - intOf i).toNat)
      case atStart => exact ⟨0, rfl, Nat.zero_le _, HO, HG, HRW⟩
      case round =>
        obtain ⟨k, rfl, hkn, HO, HGR, HRW⟩ := hrel
        by_cases e : k < m
        · have hkl : k < R.length := by rw [HM.out]; exact e
          have cx : wr.cell? ⟨H + 1, k, none⟩ = some (.int .u8 (R[k].toNat : Int)) := by
            have := HRW.out.cell k (by rw [nums_length]; exact hkl)
            rw [this]; simp [nums, List.getD_eq_getElem?_getD, hkl]
          have htk : R.take (k + 1) = R.take k ++ [R[k]] := List.take_succ_eq_append_getElem hkl
          have hpos := splitL_pos 38 (R.take k)
          have hlen := splitL_len 38 (R.take k)
          rw [List.length_take] at hlen
          obtain ⟨b, cap, rfl, hp1, hp2, hp3, hp4⟩ := HO.out.row hpos
          have hcap : cap ≤ 9223372036854775807 := by simp only [maxLen] at hp2; omega
          have hb256 := R[k].toNat_lt
          have HTK := Lib.hid htk
          have hbne : b ≠ H + 1 := by
            intro e
            have h1 := HO.out.cell 0 hpos
            have h2 := HRW.out.cell 0 (by rw [nums_length]; omega)
            rw [e, h2] at h1
            cases h1
          have hbl := World.block_lt_of_cell? wr _ cx
          simp only at hbl
          generalize R[k] = ch at *
          clear htk hkl
          by_cases h38 : ch = 38
          · subst h38
            have hz : (((38 : UInt8).toNat : Nat) : Int) = 38 := rfl
            rw [hz] at cx
            have hsp := splitL_sep 38 (R.take k)
            rw [← HTK.out] at hsp
            have HSP := Lib.hid hsp
            have hQl : (splitL 38 (R.take k)).length ≤ 900000 := Nat.le_trans (splitL_take 38 R k) HSB.out
            have HQL := Lib.hid hQl
            generalize splitL 38 (R.take k) = P at *
            have HRW2 : Hid (strRow P ++ [[.string ⟨#[]⟩]] = strRow (P ++ [[]])) := Lib.hid (by simp [strRow, bs])
            clear hsp hlen hQl
            go_wp2_with (first
              | (at_builtin; go_must (refine wpList_append_row rfl _ _ rfl Tryz.underlying28 strInfo rfl (by decide) (by decide) (B := H) (cs := strRow P) rfl (OwnR.gr HO.out ((Gr.refl wr).alloc _)) [[.string ⟨#[]⟩]] (by intro c hc; simp at hc; subst hc; exact ⟨rfl, fun u hu => by simp at hu; subst hu; rfl⟩) ⟨wr.heap.size, 0, none⟩ 1 1 rfl rfl (cell_new rfl) (by have := HQL.out; simp [strRow]; omega) (by simp; omega) ?_); intro v5 w5 ho5 hg5; have HB5 := Lib.hid (Below.trans (Below.mono (HGR.out.alloc _) (by rw [← hH]; exact Nat.le_refl _)) ((OwnR.gr HO.out ((Gr.refl wr).alloc _)).below hg5 (by simp; omega))); have HO5 := Lib.hid ho5; have HG5 := Lib.hid hg5; clear ho5 hg5))
            go_roundw
            case rel => exact ⟨k + 1, by go_num, by omega, (by show OwnT H w5 v5 _; rw [HSP.out]; unfold OwnT; rw [← HRW2.out]; exact HO5.out), (by have := HB5.out; rw [← hH] at this; exact this), HRW.out.of_block (by rw [HG5.out.block (H + 1) (by simp; omega) (by intro e; injection e with e; exact hbne e.symm)]; exact (Gr.refl wr).alloc _ |>.block hbl)⟩
            case measure => simp [intOf]; omega
          · have hz2 : ((ch.toNat : Int) == 38) = false := beq_eq_false_iff_ne.2 fun e => h38 (UInt8.toNat_inj.1 (by show ch.toNat = 38; omega))
            have hz3 : ¬ (ch.toNat : Int) = 38 := by simpa using hz2
            have HPT := Lib.hid (show ∀ p ∈ splitL 38 (R.take k), p.length ≤ 9000000 from fun p hp => by have := splitL_part 38 (R.take k) p hp; rw [List.length_take] at this; omega)
            have hsp := splitL_snoc 38 ch h38 (R.take k)
            rw [← HTK.out] at hsp
            have HSP := Lib.hid hsp
            generalize splitL 38 (R.take k) = P at *
            obtain ⟨q1, hq1⟩ : ∃ q1, P.length = q1 + 1 := ⟨P.length - 1, by omega⟩
            have hla := last_at P [] q1 hq1
            have cl := HO.out.cell q1 (by omega)
            have fr := HO.out.free q1
            have hpm : P[q1]'(by omega) = P.getLastD [] := by
              rw [List.getElem?_eq_getElem (by omega)] at hla
              exact Option.some.inj hla
            rw [hpm] at cl
            have hQl : (bs (P.getLastD [])).size ≤ 9000000 := by
              rw [bs_size]
              exact HPT.out _ (by rw [← hpm]; exact List.getElem_mem _)
            have HQ1 := Lib.hid hq1
            have HOO := HO
            rw [hq1] at HOO HSP ⊢
            generalize P.getLastD [] = q at *
            have hconv : ∀ W, W.cell? ⟨wr.heap.size, 0, none⟩ = some (.int .u8 (ch.toNat : Int)) → (convert 33 9 (.slice (some ⟨wr.heap.size, 0, none⟩) 1 1)).run Tryz.prog W = .ok (.string (bs [ch])) W := fun W hW =>
              run_convert_bytes_back W 33 9 5 ⟨wr.heap.size, 0, none⟩ 1 [ch] Tryz.underlying33 Tryz.underlying5 Tryz.underlying9 fun j hj => by
                have hj0 : j = 0 := by simpa using hj
                subst hj0
                rw [Lib.addr_add]
                simpa using hW
            have hmb : q1 ≤ 20000000 := by omega
            have i1 : (q1 : Int) < (q1 : Int) + 1 := by omega
            have hmw : IntKind.i64.wrap (q1 : Int) = (q1 : Int) := by rw [IntKind.wrap_i64]; omega
            clear hsp hlen h38 hz2 hla hpm HO
            have z1 : (bs [ch]).size = 1 := rfl
            obtain ⟨Q, hQ⟩ : ∃ Q, bs q = Q := ⟨_, rfl⟩
            rw [hQ] at cl hQl
            have HQ := Lib.hid hQ
            obtain ⟨CH, hCH⟩ : ∃ Q, bs [ch] = Q := ⟨_, rfl⟩
            rw [hCH] at hconv z1
            have HCH := Lib.hid hCH
            clear hQ hCH
            go_wp2_with fail
            go_region
            go_wp2
            go_roundw
            case rel =>
              refine ⟨k + 1, by go_num, by omega, ?_, ?_, ?_⟩
              · have h := (HOO.out.set q1 (by rw [HQ1.out]; exact Nat.lt_succ_self q1) (q ++ [ch])).gr (((Gr.refl _).alloc (.cells #[.int .u8 (ch.toNat : Int)] 5)).drew)
                rw [← bs_append, HQ.out, HCH.out] at h
                show OwnT H _ _ _
                rw [HSP.out, Nat.add_sub_cancel]
                exact h
              · exact ((HGR.out.setCell (by show w.heap.size ≤ b; omega) _).alloc _).drew
              · refine HRW.out.of_block ?_
                show ((wr.setCell ⟨b, q1, none⟩ _).alloc _).heap[H + 1]? = _
                rw [Below.heap_alloc _ _ _ (by simp [World.setCell]; exact hbl), Below.heap_setCell _ _ _ _ (fun e => hbne e.symm)]
            case measure => simp [intOf]; omega
        · obtain rfl : m = k := by omega
          have et : R.take m = R := by rw [← HM.out, List.take_length]
          have HO2 := HO.out
          rw [et] at HO2
          have HGF := Lib.hid HGR.out
          have HSRT := fun W v (h : OwnT H W v (splitL 38 R)) (hb : H ≤ W.heap.size) => Lib.hid (slSort H v (splitL 38 R) W h hb (by have := splitL_len 38 R; have := HM.out; omega))
          have HO3 := Lib.hid HO2
          have hb : H ≤ wr.heap.size := by have := HGR.out.size; omega
          have HB := Lib.hid hb
          have hx1 := HX1.out
          have i2 : (a : Int) ≤ ((a + 1 + m : Nat) : Int) := by omega
          obtain ⟨p5, c5, rfl, _⟩ := id (show OwnR 9 1 H wr _ (strRow (splitL 38 R)) from HO2).shape
          clear et HO HO2 HRW hb HGR
          go_wp2_with (first
            | (go_at_call 11; go_must (refine (HSRT _ _ HO3.out HB.out).out.mono ?_); rintro e w5 ⟨rfl, ho5, hg5⟩; have HO5 := Lib.hid ho5; have HG5 := Lib.hid hg5; clear ho5 hg5))
          go_ret2
          exact ⟨⟨_, rfl, HO5.out⟩, Below.trans HGF.out (by rw [hH]; exact HG5.out)⟩
end Go.Proofs.YtpadpdmidiaeoaaGreatDoor
