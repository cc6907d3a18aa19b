/- FnSessionNull: the walk of the law. -/
import Derived.Test.YtgkccbfepjgjoaaDoorSeT
import Derived.Lib.IndexAny
namespace Go.Proofs.YtgkccbfepjgjoaaDoor
open Go Go.RowKit

/-- append of bytes in a region that draws its order: what else stays. -/
theorem step_append_by {P : Program} {w : World} {ops : Array Oper} {o : Oper} {a : Act} {K : Act → World → Prop} {Q : Exit → Act → World → Prop} {E : Prop} {t : TypeId} (L : U8 P t) (hgd : o.guard = none) (s x : Operand)
    (ho : o.op = .call { callee := .builtin .append, args := #[s, x], argTypes := #[t, t] }) {B : Nat} {v : Value} {xs : List Int} (hs : a.eval s = v) (hown : Own B w v xs)
    {u : Value} {ys : List Int} (hx : a.eval x = u) (hr : Rd w u ys) (hlim : xs.length + ys.length ≤ 140737488355328) (hB : B ≤ w.heap.size)
    (h : ∀ v' w', Own B w' v' (xs ++ ys) → w.grownBy w' v.ownBlock → K (a.put o.dst v') w') :
    if Region.wanted o (yielded ops a.tmps) = true then Oper.wp P o a w K Q else E := by
  have hwd : Region.wanted o (yielded ops a.tmps) = true := by simp [Region.wanted, hgd]
  rw [if_pos hwd]
  exact wp_append_bytes L s x ho hs hown hx hr hlim hB fun v' w' h2 h3 _ => h v' w' h2 h3
theorem Own.lt' {B : Nat} {w : World} {v : Value} {xs : List Int} (r : Own B w v xs) : ∀ k, v.ownBlock = some k → B ≤ k ∧ k < w.heap.size := fun k hk => World.ownsRow.lt r.1 k hk

theorem step_kept {W w5 : World} {u : Value} {xs : List Int} {B : Nat} (ho : Own B W u xs) {o : Obj} (hgb : (W.alloc o).grownBy w5 u.ownBlock) : w5.heap[W.heap.size]? = some o := by
  rw [hgb.block W.heap.size (by simp) (fun e => by have := (ho.lt' _ e.symm).2; omega)]
  exact heap_alloc_new W o
theorem zero_found {xs ys : List Int} {n : Nat} (hn : xs.length = n) (h0 : 0 ∉ xs) : (xs ++ [0] ++ ys).getD n 0 = 0 ∧ (∀ j, j < n → (xs ++ [0] ++ ys).getD j 0 ≠ 0) ∧ (xs ++ [0] ++ ys).take n = xs ∧ (xs ++ [0] ++ ys).drop (n + 1) = ys := by
  subst hn
  refine ⟨by simp [List.getD_eq_getElem?_getD], fun j hj => ?_, by simp, ?_⟩
  · rw [List.getD_eq_getElem?_getD, List.append_assoc, List.getElem?_append_left hj, List.getElem?_eq_getElem hj, Option.getD_some]
    exact fun e => h0 (e ▸ List.getElem_mem hj)
  · rw [show xs.length + 1 = (xs ++ [0]).length by simp, List.drop_left]
theorem zero_none {xs ys : List Int} {n : Nat} (hn : xs.length = n) (h0 : 0 ∉ xs) : (∀ j, j < n → (xs ++ ys).getD j 0 ≠ 0) ∧ (xs ++ ys).take n = xs ∧ (xs ++ ys).drop n = ys := by
  subst hn
  refine ⟨fun j hj => ?_, by simp, by simp⟩
  rw [List.getD_eq_getElem?_getD, List.getElem?_append_left hj, List.getElem?_eq_getElem hj, Option.getD_some]
  exact fun e => h0 (e ▸ List.getElem_mem hj)

theorem mem_bytesOf {xs : List Int} (h : Byt xs) : (Lib.bytesOf xs).contains 0 = decide (0 ∈ xs) := by
  rw [List.contains_eq_mem]
  apply decide_eq_decide.2
  constructor
  · intro hm
    simp only [Lib.bytesOf, List.mem_map] at hm
    obtain ⟨x, hx, he⟩ := hm
    have hb := h x hx
    have : x = 0 := by
      have := congrArg UInt8.toNat he
      simp at this
      omega
    exact this ▸ hx
  · intro hm
    simp only [Lib.bytesOf, List.mem_map]
    exact ⟨0, hm, rfl⟩
theorem indexByte0 (v : Value) (xs : List Int) (w : World) (h : Rd w v xs) (h0 : 0 < xs.length) : ∃ z : Int, decide (0 ≤ z) = decide (0 ∈ xs) ∧ -9223372036854775808 ≤ z ∧
    Calls Tryd.prog 18 #[v, .int .u8 0] w fun e w' => e = .returned (.int .i64 z) ∧ w = w' := by
  obtain ⟨b, o, c, rfl, _, _, hat⟩ := h.at' h0
  refine ⟨_, ?_, ?_, (Tryd.bytes_IndexByte_at ⟨b, o, none⟩ xs.length c xs 0 w rfl (fun i hi => by rw [Lib.addr_add]; exact hat.cell i hi)).mono (fun _ _ h => ⟨h.1, h.2.symm⟩)⟩
  · rw [← mem_bytesOf hat.byt, Lib.contains_iff_indexByte]; rfl
  · have := Lib.indexByte_ge (Lib.bytesOf xs) (Int.toNat 0).toUInt8
    omega

set_option maxRecDepth 100000 in
set_option maxHeartbeats 4000000 in
theorem law_null (v0 v1 : Value) (xs ys : List Int) (c : Nat) (hc : c < 256) (ends : Bool) (E : Value) (w : World) (h0 : Rd w v0 xs) (h1 : Rd w v1 ys) (hE : EndE w E) :
    Calls Tryd.prog 5 #[v0, v1, .int .u8 c, .bool ends] w (RetT w) := by
  have HE := Lib.hid hE
  have HL := fun W h => Lib.hid (sessionLive E W h)
  have HI := fun h => Lib.hid (indexByte0 v0 xs w h0 h)
  obtain ⟨n, hn⟩ : ∃ n, xs.length = n := ⟨_, rfl⟩
  obtain ⟨m, hm⟩ : ∃ m, ys.length = m := ⟨_, rfl⟩
  have H0 := Lib.hid h0
  have H1 := Lib.hid h1
  have HN := Lib.hid hn
  have HM := Lib.hid hm
  obtain ⟨p0, c0, rfl, hc0, hm0, _⟩ := id h0
  obtain ⟨p1, c1, rfl, hc1, hm1, _⟩ := id h1
  rw [hn] at hc0 H0 HI ⊢
  rw [hm] at hc1 H1 ⊢
  have hm0 : c0 ≤ 9223372036854775807 := by simp only [maxLen] at hm0; omega
  have hm1 : c1 ≤ 9223372036854775807 := by simp only [maxLen] at hm1; omega
  clear hE h0 h1 hn hm
  have tok1 : True := trivial
  by_cases hA : 2147483647 < n ∨ 2147483647 < m
  · clear HI
    rcases hA with hA | hA
    · go_enter Tryd.func5, Tryd.ntmps5
      go_wp2_with fail
      go_ret
      exact ⟨rfl, Gr.refl _⟩
    · by_cases hA2 : 2147483647 < n
      all_goals
        go_enter Tryd.func5, Tryd.ntmps5
        go_wp2_with fail
        go_ret
        exact ⟨rfl, Gr.refl _⟩
  · obtain ⟨hA1, hA2⟩ : n ≤ 2147483647 ∧ m ≤ 2147483647 := by omega
    by_cases hB : n = 0 ∨ 200 < n ∨ 1000 < m
    · clear HI
      by_cases hB0 : n = 0 <;> by_cases hB1 : 200 < n <;> by_cases hB2 : 1000 < m <;> try (exfalso; omega)
      all_goals
        go_enter Tryd.func5, Tryd.ntmps5
        go_wp2_with (first
          | (go_at_call 14; go_must (refine (HL _ (HE.out)).out.mono ?_); rintro e w4 ⟨rfl, hg4⟩))
        go_ret
        exact ⟨rfl, hg4⟩
    · obtain ⟨hB0, hB1, hB2⟩ : 0 < n ∧ n ≤ 200 ∧ m ≤ 1000 := by omega
      obtain ⟨z, hz1, hz2, hz3⟩ := (HI (by first | exact hB0 | (rw [HN.out]; exact hB0))).out
      have HZ := Lib.hid hz3
      clear HI hz3
      by_cases hz : 0 ≤ z
      · clear hz1
        go_enter Tryd.func5, Tryd.ntmps5
        go_wp2_with (first
          | (go_at_call 18; go_must (refine HZ.out.mono ?_); rintro e w4 ⟨rfl, rfl⟩)
          | (go_at_call 14; go_must (refine (HL _ (HE.out)).out.mono ?_); rintro e w4 ⟨rfl, hg4⟩))
        go_ret
        exact ⟨rfl, hg4⟩
      · have hz0 : 0 ∉ xs := by
          intro hx
          rw [decide_eq_true hx] at hz1
          exact hz (of_decide_eq_true hz1)
        have HZ0 := Lib.hid hz0
        have n0 : ((n : Int) == 0) = false := beq_eq_false_iff_ne.2 (by omega)
        clear hz1 hz0
        cases ends
        · obtain ⟨z1, z2, z3⟩ := zero_none (ys := ys) HN.out HZ0.out
          have hrun : Runs false [⟨7, n, false, false⟩] (xs ++ ys) [⟨true, [], [], 0, tx xs⟩] (some ys) :=
            Runs.cons (fun s ch E w h => got_null s false ch E (xs ++ ys) ys (tx xs) n false false w h (fun w h => by have := null_all s false ch E (xs ++ ys) n w h (by rw [List.length_append, HN.out]; omega) z1; rw [z2, z3] at this; exact this)) rfl (Runs.nil _)
          have HLIM := Lib.hid (show xs.length + ys.length ≤ 140737488355328 by rw [HN.out, HM.out]; omega)
          have HS := fun W u v hE hu hv => Lib.hid (sessionGet u v (xs ++ ys) [⟨7, n, false, false⟩] false _ _ E W hE hu (by rw [List.length_append, HN.out, HM.out]; omega) hv (by simp) hrun)
          clear z1 z2 z3 hrun
          go_enter Tryd.func5, Tryd.ntmps5
          go_wp2_with (first
            | (go_at_call 18; go_must (refine HZ.out.mono ?_); rintro e w4 ⟨rfl, rfl⟩)
            | (go_at_call 16; go_must (refine (clone _ xs _ H0.out (by rw [HN.out]; omega)).mono ?_); rintro e w2 ⟨u2, rfl, ho2, hg2⟩; have HO2 := Lib.hid ho2; have HGW := Lib.hid hg2; clear ho2 hg2)
            | (at_builtin; go_must (refine wpList_append_gr Go.Proofs.YtgkccbfepjgjoaaDoor.u8 rfl _ _ rfl (w0 := w) HGW.out rfl HO2.out rfl (H1.out.gr HGW.out) HLIM.out ?_); intro v5 w5 ho5 hG5; have HO5 := Lib.hid ho5; clear ho5)
            | (go_at_call 13; go_must (refine (HS _ _ _ (HE.out.gr (hG5.alloc _)) (HO5.out.rd.gr ((Gr.refl _).alloc _)) (RdSt.one ⟨7, n, false, false⟩ (heap_new_at _ _ (by simp)))).out.mono ?_); rintro e w6 ⟨g6, l6, left6, rfl, hO6, ho6, hl6, hg6⟩; obtain rfl := hl6 _ rfl; have hG6 := (hG5.alloc _).trans hg6; obtain ⟨gb6, gc6, gd6, go6, rfl, hgc6, hgm6, d0, d1, d2, d3, d4, rd6, ro6⟩ := hO6.one; have hcv := str_conv (H0.out.gr hG6); have HR6 := Lib.hid ho6.rd; have HR7 := Lib.hid (H1.out.gr hG6); clear hO6 rd6 ro6 ho6 hg6)
            | fail)
          clear hcv
          have hG7 := hG6.drew
          go_region_held3 (fun w' => w'.cell? ⟨gb6, 0, none⟩ = some (.bool true) ∧ w'.cell? ⟨gb6, 4, none⟩ = some (.string (tx xs)) ∧ (convert 24 9 (.slice p0 n c0)).run Tryd.prog w' = .ok (.string (tx xs)) w') (first | (with_reducible exact ⟨(Gr.refl w6).drew.cell d0, (Gr.refl w6).drew.cell d4, str_conv (H0.out.gr hG7)⟩) | (with_reducible exact ⟨hg8.cell ((Gr.refl w6).drew.cell d0), hg8.cell ((Gr.refl w6).drew.cell d4), str_conv (H0.out.gr (hG7.trans hg8))⟩))
            ((first
              | (go_at_call 17; go_must (refine (equal_same _ _ _ _ (HR6.out.gr (Gr.refl _).drew) (HR7.out.gr (Gr.refl _).drew)).mono ?_); rintro e w7 ⟨rfl, rfl⟩)
              | (go_at_call 14; go_must (refine (HL _ (HE.out.gr hG7)).out.mono ?_); rintro e w8 ⟨rfl, hg8⟩)))
          go_wp2_with fail
          go_ret
          exact ⟨rfl, hG7.trans hg8⟩
        · obtain ⟨z0, z1, z2, z3⟩ := zero_found (ys := ys) HN.out HZ0.out
          obtain ⟨k, hk⟩ : ∃ k : Nat, n + 1 + c % (m + 1) = k := ⟨_, rfl⟩
          have hkm : c % (m + 1) < m + 1 := Nat.mod_lt _ (by omega)
          have hki : (n : Int) + 1 + (c : Int) % ((m : Int) + 1) = k := by rw [← hk]; simp
          have hkz : (0 : Int) ≤ (c : Int) % ((m : Int) + 1) ∧ (c : Int) % ((m : Int) + 1) < (m : Int) + 1 := ⟨Int.emod_nonneg _ (by omega), Int.emod_lt_of_pos _ (by omega)⟩
          have hrun : Runs false [⟨7, k, false, false⟩] (xs ++ [0] ++ ys) [⟨true, [], [], 0, tx xs⟩] (some ys) :=
            Runs.cons (fun s ch E w h => got_null s false ch E (xs ++ [0] ++ ys) ys (tx xs) k false false w h (fun w h => by have := null_found s false ch E (xs ++ [0] ++ ys) k n w h (by simp only [List.length_append, HN.out, HM.out, List.length_cons, List.length_nil]; omega) hB0 (by omega) z0 z1; rw [z2, z3] at this; exact this)) rfl (Runs.nil _)
          have HLIM := Lib.hid (show (xs ++ [0]).length + ys.length ≤ 140737488355328 by simp only [List.length_append, HN.out, HM.out, List.length_cons, List.length_nil]; omega)
          have HS := fun W u v hE hu hv => Lib.hid (sessionGet u v (xs ++ [0] ++ ys) [⟨7, k, false, false⟩] false _ _ E W hE hu (by simp only [List.length_append, HN.out, HM.out, List.length_cons, List.length_nil]; omega) hv (by simp) hrun)
          clear z0 z1 z2 z3 hrun
          go_enter Tryd.func5, Tryd.ntmps5
          go_wp2_with (first
            | (go_at_call 18; go_must (refine HZ.out.mono ?_); rintro e w4 ⟨rfl, rfl⟩)
            | (go_at_call 16; go_must (refine (clone _ xs _ H0.out (by rw [HN.out]; omega)).mono ?_); rintro e w2 ⟨u2, rfl, ho2, hg2⟩; have HO2 := Lib.hid ho2; have HG2 := Lib.hid hg2; clear ho2 hg2)
            | (at_builtin; have _t := tok1; go_must (refine wpList_append_gr Go.Proofs.YtgkccbfepjgjoaaDoor.u8 rfl _ _ rfl (w0 := w) (HG2.out.alloc _) rfl (xs := xs) (HO2.out.gr ((Gr.refl _).alloc _)) rfl (ys := [0]) (Rd.lit w2 [0] _ 1 (byt_of (by decide)) rfl (by rfl) (by simp [maxLen]) rfl) (by rw [HN.out]; simp; omega) ?_); intro v3 w3 ho3 hg3; have HO3 := Lib.hid ho3; have HGW := Lib.hid hg3; clear ho3 hg3 tok1 _t)
            | (at_builtin; go_must (refine wpList_append_gr Go.Proofs.YtgkccbfepjgjoaaDoor.u8 rfl _ _ rfl (w0 := w) HGW.out rfl HO3.out rfl (H1.out.gr HGW.out) HLIM.out ?_); intro v5 w5 ho5 hG5; have HO5 := Lib.hid ho5; clear ho5)
            | (go_at_call 13; go_must (refine (HS _ _ _ (HE.out.gr (hG5.alloc _)) (HO5.out.rd.gr ((Gr.refl _).alloc _)) (RdSt.one ⟨7, k, false, false⟩ (heap_new_at _ _ (by simp)))).out.mono ?_); rintro e w6 ⟨g6, l6, left6, rfl, hO6, ho6, hl6, hg6⟩; obtain rfl := hl6 _ rfl; have hG6 := (hG5.alloc _).trans hg6; obtain ⟨gb6, gc6, gd6, go6, rfl, hgc6, hgm6, d0, d1, d2, d3, d4, rd6, ro6⟩ := hO6.one; have hcv := str_conv (H0.out.gr hG6); have HR6 := Lib.hid ho6.rd; have HR7 := Lib.hid (H1.out.gr hG6); clear hO6 rd6 ro6 ho6 hg6)
            | fail)
          clear hcv
          have hG7 := hG6.drew
          go_region_held3 (fun w' => w'.cell? ⟨gb6, 0, none⟩ = some (.bool true) ∧ w'.cell? ⟨gb6, 4, none⟩ = some (.string (tx xs)) ∧ (convert 24 9 (.slice p0 n c0)).run Tryd.prog w' = .ok (.string (tx xs)) w') (first | (with_reducible exact ⟨(Gr.refl w6).drew.cell d0, (Gr.refl w6).drew.cell d4, str_conv (H0.out.gr hG7)⟩) | (with_reducible exact ⟨hg8.cell ((Gr.refl w6).drew.cell d0), hg8.cell ((Gr.refl w6).drew.cell d4), str_conv (H0.out.gr (hG7.trans hg8))⟩))
            ((first
              | (go_at_call 17; go_must (refine (equal_same _ _ _ _ (HR6.out.gr (Gr.refl _).drew) (HR7.out.gr (Gr.refl _).drew)).mono ?_); rintro e w7 ⟨rfl, rfl⟩)
              | (go_at_call 14; go_must (refine (HL _ (HE.out.gr hG7)).out.mono ?_); rintro e w8 ⟨rfl, hg8⟩)))
          go_wp2_with fail
          go_ret
          exact ⟨rfl, hG7.trans hg8⟩

theorem law_null_z (v0 v1 : Value) (xs ys : List Int) (c : Int) (hc : 0 ≤ c ∧ c < 256) (ends : Bool) (w : World) (h0 : Rd w v0 xs) (h1 : Rd w v1 ys) (hE : ∃ E, EndE w E) :
    Calls Tryd.prog 5 #[v0, v1, .int .u8 c, .bool ends] w (RetT w) := by
  obtain ⟨E, hE⟩ := hE
  have := law_null v0 v1 xs ys c.toNat (by omega) ends E w h0 h1 hE
  rwa [Int.toNat_of_nonneg hc.1] at this
end Go.Proofs.YtgkccbfepjgjoaaDoor
