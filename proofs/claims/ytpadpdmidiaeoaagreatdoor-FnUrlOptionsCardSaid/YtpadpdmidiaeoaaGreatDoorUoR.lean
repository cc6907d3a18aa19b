/- FnUrlOptions: the law. -/
import Derived.Test.YtpadpdmidiaeoaaGreatDoorUoQ
import Derived.Test.YtpadpdmidiaeoaaGreatDoorUrE
namespace Go.Proofs.YtpadpdmidiaeoaaGreatDoor
open Go Go.RowKit Go.Lib Go.Maps

theorem strAt1 (A : ByteArray) (w : World) (T : TypeId) (H : Nat) (hH : H = w.heap.size) : StrAt (w.alloc (.cells #[.string A] T)) H [A] := by
  intro j hj
  have hj : j < 1 := hj
  obtain rfl : j = 0 := by omega
  exact (blk_cell (heap_new_at w _ hH) 0).trans rfl

set_option maxRecDepth 100000 in
theorem slEqual1 (p : Option Addr) (c : Nat) (w : World) : Calls Tryz.prog 15 #[.slice none 0 0, .slice p 0 c] w fun e w' => e = .returned (.bool true) ∧ w' = w := by
  go_enter Tryz.func15, Tryz.ntmps15
  go_wp2
  go_loopw [13] (fun i wr => i = .int .i64 0 ∧ wr = w) (fun _ _ => 0)
  case atStart => exact ⟨rfl, rfl⟩
  case round =>
    obtain ⟨rfl, rfl⟩ := hrel
    go_wp2
    go_ret
    exact ⟨rfl, rfl⟩

/-- What the options met so far keep. -/
structure Gate (L : List Op) : Prop where
  ok : ∀ x ∈ L, OkO x
  nd : (L.map Op.n).Nodup
  am : ∀ t ∈ optsL L, (38 : UInt8) ∉ t
theorem Gate.nil : Gate [] := ⟨by simp, by simp, by simp [optsL]⟩
theorem okO_of {x : Op} (hn : nameOk x.n = true) (hv : x.v.length ≤ 300) (hb : valB x.v = true) : OkO x := by
  unfold nameOk at hn
  rw [Bool.and_eq_true, decide_eq_true_eq] at hn
  refine ⟨by omega, hv, valB_ok _ hb, fun c hc => ?_⟩
  have := List.all_eq_true.1 hn.1 c hc
  unfold alnB at this
  simp only [Bool.or_eq_true, Bool.and_eq_true, decide_eq_true_eq] at this
  omega
theorem Gate.snoc {L : List Op} (h : Gate L) {x : Op} (hn : nameOk x.n = true) (hv : x.v.length ≤ 300) (hb : valB x.v = true) (hm : x.n ∉ L.map Op.n) (ha : ∀ t ∈ optL x.n x.v, (38 : UInt8) ∉ t) : Gate (L ++ [x]) := by
  refine ⟨fun y hy => ?_, ?_, fun t ht => ?_⟩
  · rcases List.mem_append.1 hy with hy | hy
    · exact h.ok y hy
    · rw [List.mem_singleton] at hy
      subst hy
      exact okO_of hn hv hb
  · rw [List.map_append, List.nodup_append]
    refine ⟨h.nd, by simp, fun a ha b hb => ?_⟩
    simp at hb
    subst hb
    exact fun e => hm (e ▸ ha)
  · rw [optsL_snoc] at ht
    rcases List.mem_append.1 ht with ht | ht
    · exact h.am t ht
    · exact ha t ht

theorem opts_count (L : List Op) (h : ∀ x ∈ L, OkO x) : (optsL L).length ≤ L.length * 301 := by
  induction L with
  | nil => simp [optsL]
  | cons x L ih =>
    have h1 := ih (fun y hy => h y (by simp [hy]))
    have h2 := (h x (by simp)).len.1
    rw [show optsL (x :: L) = optL x.n x.v ++ optsL L by simp [optsL], List.length_append, List.length_cons, optL_parts, List.length_map]
    omega

set_option maxRecDepth 100000 in
set_option maxHeartbeats 8000000 in
theorem lawO (S : List UInt8) (n : Int) (v : Value) (l : List Op) (w : World) (hn0 : 0 ≤ n) (hn1 : n ≤ 65535) (hv : RdO w v l) (hu : TabU w) (ht : Tab10 w) (hs : TabS w) :
    Calls Tryz.prog 3 #[.string (bs S), .int .u16 n, v] w fun e w' => e = .returned (.bool true) ∧ Gr w w' := by
  have HF6 := Lib.hid (fits6 v l w hv)
  have HA := fun W hu ht => Lib.hid (urlAwake W hu ht)
  have HU := Lib.hid hu
  have HT := Lib.hid ht
  have HS := Lib.hid hs
  have HV := Lib.hid hv
  have hss : (bs S).size = S.length := bs_size S
  have HH := fun (h : S.length ≤ 4000000000) W => Lib.hid (urlHost S h W)
  obtain ⟨p, c, rfl, hlc, hcm, hcells⟩ := id hv
  have HC := Lib.hid hcells
  obtain ⟨m, hm⟩ : ∃ m, l.length = m := ⟨_, rfl⟩
  have HM := Lib.hid hm
  have hcm2 : c ≤ 9223372036854775807 := by simp only [maxLen] at hcm; omega
  have HNN := Lib.hid (And.intro hn0 hn1)
  rw [hm] at hlc HF6 HV ⊢
  clear hv hu ht hs hcm hcells hm hn0 hn1
  obtain ⟨SB, hSB⟩ : ∃ SB, bs S = SB := ⟨_, rfl⟩
  rw [hSB] at hss HH ⊢
  have HSB := Lib.hid hSB
  clear hSB
  go_enter Tryz.func3, Tryz.ntmps3
  by_cases hbig : (2147483647 : Int) < (S.length : Int)
  · go_wp2
    go_ret
    exact ⟨rfl, Gr.refl w⟩
  have hS4 : S.length ≤ 4000000000 := by omega
  have HH := HH hS4
  rcases hfit : (decide (m ≤ 2147483647) && l.all fitO) with _ | _
  · rw [hfit] at HF6
    clear hfit
    go_wp2_with (first
      | (go_at_call 4; go_must (refine HF6.out.mono ?_); rintro e w2 ⟨rfl, hg2⟩))
    go_ret
    exact ⟨rfl, hg2⟩
  have hfit2 : m ≤ 2147483647 ∧ ∀ x ∈ l, fitO x = true := by
    rw [Bool.and_eq_true, decide_eq_true_eq, List.all_eq_true] at hfit
    exact hfit
  rw [hfit] at HF6
  clear hfit
  have HFX := Lib.hid hfit2.2
  clear hfit2
  rcases hho : hostOk S with _ | _
  · rw [hho] at HH
    clear hho
    go_wp2_with (first
      | (go_at_call 4; go_must (refine HF6.out.mono ?_); rintro e w2 ⟨rfl, hg2⟩; have HG2 := Lib.hid hg2; clear hg2)
      | (go_at_call 5; go_must (refine (HH _).out.mono ?_); rintro e w3 ⟨rfl, hg3⟩; have HG3 := Lib.hid (HG2.out.trans hg3); clear hg3)
      | (go_at_call 6; go_must (refine (HA _ (HU.out.gr HG3.out) (HT.out.gr HG3.out)).out.mono ?_); rintro e w4 ⟨rfl, hg4⟩))
    go_ret
    exact ⟨rfl, HG3.out.trans hg4⟩
  rw [hho] at HH
  have HHO := Lib.hid hho
  clear hho
  by_cases h20 : (20 : Int) < (m : Int)
  · go_wp2_with (first
      | (go_at_call 4; go_must (refine HF6.out.mono ?_); rintro e w2 ⟨rfl, hg2⟩; have HG2 := Lib.hid hg2; clear hg2)
      | (go_at_call 5; go_must (refine (HH _).out.mono ?_); rintro e w3 ⟨rfl, hg3⟩; have HG3 := Lib.hid (HG2.out.trans hg3); clear hg3)
      | (go_at_call 6; go_must (refine (HA _ (HU.out.gr HG3.out) (HT.out.gr HG3.out)).out.mono ?_); rintro e w4 ⟨rfl, hg4⟩))
    go_ret
    exact ⟨rfl, HG3.out.trans hg4⟩
  have hmm := @run_makeMap Tryz.prog
  go_wp2_with (first
    | (go_at_call 4; go_must (refine HF6.out.mono ?_); rintro e w2 ⟨rfl, hg2⟩; have HG2 := Lib.hid hg2; clear hg2)
    | (go_at_call 5; go_must (refine (HH _).out.mono ?_); rintro e w3 ⟨rfl, hg3⟩; have HG3 := Lib.hid (HG2.out.trans hg3); clear hg3))
  have db : decide ((2147483647 : Int) < (S.length : Int)) = false := by simpa using hbig
  have d20 : decide ((20 : Int) < (m : Int)) = false := by simpa using h20
  try rw [db]
  try rw [d20]
  have IM : Hid (OwnB (w3.alloc (.map #[] 0)) w3.heap.size 0 []) := World.ownsMap_made w3 Tryz.prog 9 (plainElem (H := Unit) Tryz.prog 4)
  have HG4 := Lib.hid (HG3.out.alloc (.map #[] 0))
  obtain ⟨M, hM⟩ : ∃ M, w3.heap.size = M := ⟨_, rfl⟩
  rw [hM] at IM ⊢
  have hMl : M < (w3.alloc (.map #[] 0)).heap.size := by simp [hM]
  have hMw : w.heap.size ≤ M := by rw [← hM]; exact HG3.out.size
  have HMW := Lib.hid hMw
  have HML := Lib.hid hMl
  obtain ⟨W0, hW0⟩ : ∃ W0, w3.alloc (.map #[] 0) = W0 := ⟨_, rfl⟩
  rw [hW0] at IM HG4 HML ⊢
  obtain ⟨H, hH⟩ : ∃ H, w.heap.size = H := ⟨_, rfl⟩
  have HHH := Lib.hid hH
  have hm20 : m ≤ 20 := by omega
  clear hW0 hM hMl hMw HF6 HH hmm HG2 HG3 db d20 h20 hbig hH
  go_loopw [37, 8] (fun i s wr => ∃ k : Nat, i = .int .i64 k ∧ k ≤ m ∧ Hid (Gate (l.take k)) ∧ Hid (OwnT H wr s (optsL (l.take k))) ∧ Hid (OwnB wr M k (l.take k)) ∧ Hid (Gr w wr)) (fun i _ _ => ((m : Int) - intOf i).toNat)
  case atStart => exact ⟨0, rfl, Nat.zero_le _, (by rw [List.take_zero]; exact Gate.nil), (show OwnT H _ _ (optsL (l.take 0)) by rw [List.take_zero]; exact OwnR.nil _ _ _ _), (by rw [List.take_zero]; exact IM), HG4⟩
  case round =>
    obtain ⟨k, rfl, hk, HGT, HO, HB, HGR⟩ := hrel
    by_cases e : k < m
    · have hkl : k < l.length := by rw [HM.out]; exact e
      obtain ⟨b, o, rfl, hc⟩ := HC.out (by omega)
      have c0 := HGR.out.cell (hc k hkl).1
      have c1 := HGR.out.cell (hc k hkl).2
      have htk : l.take (k + 1) = l.take k ++ [l[k]] := List.take_succ_eq_append_getElem hkl
      have hfx := HFX.out l[k] (List.getElem_mem hkl)
      generalize l[k] = x at *
      have hfl : x.n.length ≤ 2147483647 ∧ x.v.length ≤ 2147483647 := by
        unfold fitO at hfx
        simpa using hfx
      obtain ⟨hf1, hf2⟩ := hfl
      have HTK := Lib.hid htk
      have HN := fun W => Lib.hid (urlName x.n (by omega) W)
      have HSH : ∀ b W, StrAt W b [bs x.v] → Hid (Calls Tryz.prog 8 #[.slice (some ⟨b, 0, none⟩) 1 1] W fun e w' => e = .returned (.bool (decide (x.v.length ≤ 300))) ∧ w' = W) := fun b W h => Lib.hid (by
        have := shortC b 1 1 [bs x.v] W rfl (Nat.le_refl _) (by omega) h
        simpa [bs_size] using this)
      have HP := fun (h : x.v.length ≤ 300) W => Lib.hid (urlParts x.v (by omega) W)
      have HLK : Hid (∀ W, OwnB W M k (l.take k) → (Instr.lookup 27 (.map (some M)) (.string (bs x.n)) false).run Tryz.prog W = .ok (.bool (decide (x.n ∈ (l.take k).map Op.n))) W) := Lib.hid (fun W h => h.look x (by simp only [maxLen]; omega))
      have HK1 : Hid (keyOf Tryz.prog 9 (.string (bs x.n)) = some (keyD x)) := Lib.hid (WideMaps.keyOf_string_mk Tryz.underlying9 (by rw [bs_size]; simp only [maxLen]; omega))
      have HCO := fun (h1 : x.n.length ≤ 1000) (h2 : x.v.length ≤ 1000) W => Lib.hid (configOption x.n x.v h1 h2 W)
      obtain ⟨X, hX⟩ : ∃ X, bs x.n = X := ⟨_, rfl⟩
      obtain ⟨Y, hY⟩ : ∃ Y, bs x.v = Y := ⟨_, rfl⟩
      rw [hX] at c0 HN HLK HK1 HCO
      rw [hY] at c1 HSH HP HCO
      have d0 : (wr.alloc (.cells #[.string X, .string Y] 30)).cell? ⟨wr.heap.size, 0, none⟩ = some (.string X) := (blk_cell (heap_new_at wr _ rfl) 0).trans rfl
      have d1 : (wr.alloc (.cells #[.string X, .string Y] 30)).cell? ⟨wr.heap.size, 1, none⟩ = some (.string Y) := (blk_cell (heap_new_at wr _ rfl) 1).trans rfl
      have HGX := Lib.hid ((Gr.refl wr).alloc (.cells #[.string X, .string Y] 30))
      clear hX hY htk hkl hc hfx hf1 hf2
      rcases hnm : nameOk x.n with _ | _
      · rw [hnm] at HN
        clear hnm HSH HP HLK HK1 HCO
        go_wp2_with (first
          | (go_at_call 7; go_must (refine (HN _).out.mono ?_); rintro e w5 ⟨rfl, hg5⟩; have HG5 := Lib.hid (HGX.out.trans hg5); clear hg5)
          | (go_at_call 6; go_must (refine (HA _ (HU.out.gr (HGR.out.trans HG5.out)) (HT.out.gr (HGR.out.trans HG5.out))).out.mono ?_); rintro e w6 ⟨rfl, hg6⟩))
        go_ret
        exact ⟨rfl, (HGR.out.trans HG5.out).trans hg6⟩
      rw [hnm] at HN
      have HNM := Lib.hid hnm
      clear hnm
      by_cases h301 : 300 < x.v.length
      · rw [show decide (x.v.length ≤ 300) = false by simp; omega] at HSH
        clear HP HLK HK1 HCO h301
        go_wp2_with (first
          | (go_at_call 7; go_must (refine (HN _).out.mono ?_); rintro e w5 ⟨rfl, hg5⟩; have d0 := hg5.cell d0; have d1 := hg5.cell d1; have HG5 := Lib.hid (HGX.out.trans hg5); clear hg5)
          | (go_at_call 8; go_must (refine (HSH _ _ (strAt1 Y _ 9 _ rfl)).out.mono ?_); rintro e w6 ⟨rfl, hw⟩; obtain rfl := hw.symm; have HG6 := Lib.hid (HG5.out.alloc (.cells #[.string Y] 9)))
          | (go_at_call 6; go_must (refine (HA _ (HU.out.gr (HGR.out.trans HG6.out)) (HT.out.gr (HGR.out.trans HG6.out))).out.mono ?_); rintro e w7 ⟨rfl, hg7⟩))
        go_ret
        exact ⟨rfl, (HGR.out.trans HG6.out).trans hg7⟩
      have h300 : x.v.length ≤ 300 := by omega
      rw [show decide (x.v.length ≤ 300) = true by simpa using h300] at HSH
      clear h301
      have HP := HP h300
      have H300 := Lib.hid h300
      clear h300
      rcases hvb : valB x.v with _ | _
      · rw [hvb] at HP
        clear HLK HK1 HCO hvb
        go_wp2_with (first
          | (go_at_call 7; go_must (refine (HN _).out.mono ?_); rintro e w5 ⟨rfl, hg5⟩; have d0 := hg5.cell d0; have d1 := hg5.cell d1; have HG5 := Lib.hid (HGX.out.trans hg5); clear hg5)
          | (go_at_call 8; go_must (refine (HSH _ _ (strAt1 Y _ 9 _ rfl)).out.mono ?_); rintro e w6 ⟨rfl, hw⟩; obtain rfl := hw.symm; have HG6 := Lib.hid (HG5.out.alloc (.cells #[.string Y] 9)); have d0 := ((Gr.refl _).alloc (.cells #[.string Y] 9)).cell d0; have d1 := ((Gr.refl _).alloc (.cells #[.string Y] 9)).cell d1)
          | (go_at_call 9; go_must (refine (HP _).out.mono ?_); rintro e w7 ⟨rfl, hg7⟩; have d0 := hg7.cell d0; have d1 := hg7.cell d1; have HG7 := Lib.hid (HG6.out.trans hg7); clear hg7)
          | (go_at_call 6; go_must (refine (HA _ (HU.out.gr (HGR.out.trans HG7.out)) (HT.out.gr (HGR.out.trans HG7.out))).out.mono ?_); rintro e w8 ⟨rfl, hg8⟩))
        go_ret
        exact ⟨rfl, (HGR.out.trans HG7.out).trans hg8⟩
      rw [hvb] at HP
      have HVB := Lib.hid hvb
      clear hvb
      by_cases hmet : x.n ∈ (l.take k).map Op.n
      · rw [show decide (x.n ∈ (l.take k).map Op.n) = true by simpa using hmet] at HLK
        clear HK1 HCO hmet
        go_wp2_with (first
          | (go_at_call 7; go_must (refine (HN _).out.mono ?_); rintro e w5 ⟨rfl, hg5⟩; have d0 := hg5.cell d0; have d1 := hg5.cell d1; have HG5 := Lib.hid (HGX.out.trans hg5); clear hg5)
          | (go_at_call 8; go_must (refine (HSH _ _ (strAt1 Y _ 9 _ rfl)).out.mono ?_); rintro e w6 ⟨rfl, hw⟩; obtain rfl := hw.symm; have HG6 := Lib.hid (HG5.out.alloc (.cells #[.string Y] 9)); have d0 := ((Gr.refl _).alloc (.cells #[.string Y] 9)).cell d0; have d1 := ((Gr.refl _).alloc (.cells #[.string Y] 9)).cell d1)
          | (go_at_call 9; go_must (refine (HP _).out.mono ?_); rintro e w7 ⟨rfl, hg7⟩; have d0 := hg7.cell d0; have d1 := hg7.cell d1; have HG7 := Lib.hid (HG6.out.trans hg7); have hlk := HLK.out w7 (HB.out.gr HG7.out); clear hg7)
          | (go_at_call 6; go_must (refine (HA _ (HU.out.gr (HGR.out.trans HG7.out)) (HT.out.gr (HGR.out.trans HG7.out))).out.mono ?_); rintro e w8 ⟨rfl, hg8⟩))
        go_ret
        exact ⟨rfl, (HGR.out.trans HG7.out).trans hg8⟩
      rw [show decide (x.n ∈ (l.take k).map Op.n) = false by simpa using hmet] at HLK
      have HMET := Lib.hid hmet
      clear hmet
      have HCO := HCO (by have := HNM.out; unfold nameOk at this; rw [Bool.and_eq_true, decide_eq_true_eq] at this; omega) (by have := H300.out; omega)
      have hok : OkO x := okO_of HNM.out H300.out HVB.out
      obtain ⟨Q, hQ⟩ : ∃ Q, optL x.n x.v = Q := ⟨_, rfl⟩
      have HQN : Hid (0 < Q.length) := Lib.hid (by rw [← hQ, optL_parts, List.length_map]; exact splitL_pos _ _)
      have HQB : Hid (Q.length ≤ 301) := Lib.hid (by rw [← hQ, optL_parts, List.length_map]; exact hok.len.1)
      have HQE : Hid (∀ t ∈ Q, t.length ≤ 1001) := Lib.hid (fun t ht => by
        rw [← hQ, optL_parts] at ht
        obtain ⟨p, hp, rfl⟩ := List.mem_map.1 ht
        have h1 := optP_len x.n (trimB p)
        have h2 := trimB_len p
        have h3 := hok.len.2 p hp
        have h4 := hok.n
        omega)
      have HTS : Hid (optsL (l.take (k + 1)) = optsL (l.take k) ++ Q) := Lib.hid (by rw [HTK.out, optsL_snoc, hQ])
      have HWL : Hid ((optsL (l.take k)).length ≤ 6020) := Lib.hid (by
        have := opts_count (l.take k) HGT.out.ok
        rw [List.length_take] at this
        omega)
      have HGS : Hid ((∀ t ∈ Q, (38 : UInt8) ∉ t) → Gate (l.take (k + 1))) := Lib.hid (fun h => by rw [HTK.out]; exact HGT.out.snoc HNM.out H300.out HVB.out HMET.out (by rw [hQ]; exact h))
      rw [hQ] at HCO
      have HMX : Hid (some wr.heap.size ≠ some M) := Lib.hid (fun e => by have := World.ownsMap.lt HB.out; injection e with e; omega)
      have HMB : Hid (mB (l.take (k + 1)) = (mB (l.take k)).put (keyD x) (.lit (.bool true))) := Lib.hid (by rw [HTK.out, mB_snoc])
      clear hok hQ
      go_wp2_with (first
        | (go_at_call 7; go_must (refine (HN _).out.mono ?_); rintro e w5 ⟨rfl, hg5⟩; have d0 := hg5.cell d0; have d1 := hg5.cell d1; have HG5 := Lib.hid (HGX.out.trans hg5); clear hg5)
        | (go_at_call 8; go_must (refine (HSH _ _ (strAt1 Y _ 9 _ rfl)).out.mono ?_); rintro e w6 ⟨rfl, hw⟩; obtain rfl := hw.symm; have HG6 := Lib.hid (HG5.out.alloc (.cells #[.string Y] 9)); have d0 := ((Gr.refl _).alloc (.cells #[.string Y] 9)).cell d0; have d1 := ((Gr.refl _).alloc (.cells #[.string Y] 9)).cell d1)
        | (go_at_call 9; go_must (refine (HP _).out.mono ?_); rintro e w7 ⟨rfl, hg7⟩; have d0 := hg7.cell d0; have d1 := hg7.cell d1; have HG7 := Lib.hid (HG6.out.trans hg7); have hlk := HLK.out w7 (HB.out.gr HG7.out); clear hg7)
        | (at_mapUpdate; refine wpList_mapUpdate_own _ rfl _ _ _ 27 rfl 9 4 keyS Tryz.underlying27 (plainElem (H := Unit) Tryz.prog 4) M k _ rfl (HB.out.gr HG7.out) (by unfold maxLen; omega) _ _ _ rfl rfl HK1.out _ [] (plainElem_bool Tryz.underlying4 true) ?_; intro w8 hown8 hgrow8; have d0 := hgrow8.cell d0 HMX.out; have d1 := hgrow8.cell d1 HMX.out; have HO8 := Lib.hid (OwnT.byMap (HO.out.gr HG7.out) (HB.out.gr HG7.out) hgrow8); have HB8 : Hid (OwnB w8 M (k + 1) (l.take (k + 1))) := Lib.hid (by unfold OwnB; rw [HMB.out]; exact hown8); have HG8 : Hid (Gr w w8) := Lib.hid (Gr.grown (HGR.out.trans HG7.out) hgrow8 (fun j ej => by cases ej; rw [HHH.out]; rw [HHH.out] at HMW; exact HMW.out)); clear hown8 hgrow8 hlk)
        | (go_at_call 10; go_must (refine (HCO _).out.mono ?_); rintro e w9 ⟨v9, rfl, ho9, hg9⟩; obtain ⟨b9, c9, rfl, hs1, hs2, hs3, hs4⟩ := ho9.row HQN.out; have HO9 := Lib.hid ho9; have HG9 := Lib.hid hg9; have hc9 : c9 ≤ 9223372036854775807 := (by simp only [maxLen] at hs2; omega); have HS3 := Lib.hid hs3; clear ho9 hg9 hs2 hs3 hs4))
      obtain ⟨q, hq⟩ : ∃ q, Q.length = q := ⟨_, rfl⟩
      have HQL := Lib.hid hq
      rw [hq] at hs1 ⊢
      have hqb : q ≤ 301 := by rw [← hq]; exact HQB.out
      have HOA := Lib.hid (HO8.out.gr HG9.out)
      have HBA := Lib.hid (HB8.out.gr HG9.out)
      have HGA := Lib.hid (HG8.out.trans HG9.out)
      have HNE : Hid (u8.ownBlock ≠ some b9) := Lib.hid (fun e => by
        have h1 := (World.ownsRow.lt (OwnR.row HO8.out) b9 e).2
        have h2 := HS3.out
        omega)
      have HCE : Hid (∀ j (hj : j < Q.length), w9.cell? ⟨b9, j, none⟩ = some (.string (bs Q[j]))) := Lib.hid (fun j hj => HO9.out.cell j hj)
      obtain ⟨OL, hOL⟩ : ∃ OL, optsL (l.take k) = OL := ⟨_, rfl⟩
      rw [hOL] at HOA HWL HTS
      clear d0 d1 hq hOL HO8 HB8 HG8 HG9 HO9 HS3 HG5 HG6 HG7 HN HSH HP HCO HLK HK1 HGX HMX HMB HO HB HGR c0 c1
      go_loopw [71, 8] (fun i s wy => ∃ j : Nat, i = .int .i64 j ∧ j ≤ q ∧ Hid (OwnT H wy s (OL ++ Q.take j)) ∧ Hid (s.ownBlock ≠ some b9) ∧ Hid (∀ j (hj : j < Q.length), wy.cell? ⟨b9, j, none⟩ = some (.string (bs Q[j]))) ∧ Hid (∀ t ∈ Q.take j, (38 : UInt8) ∉ t) ∧ Hid (OwnB wy M (k + 1) (l.take (k + 1))) ∧ Hid (Gr w wy)) (fun i _ _ => ((q : Int) - intOf i).toNat)
      case atStart => exact ⟨0, rfl, Nat.zero_le _, (show OwnT H _ _ _ by rw [List.take_zero, List.append_nil]; exact HOA.out), HNE, HCE, (by show ∀ t ∈ _, _; simp), HBA, HGA⟩
      case round =>
        obtain ⟨j, rfl, hjq, HO, HNE, HCE, HNO, HB, HGR⟩ := hrel
        by_cases e : j < q
        · have hjl : j < Q.length := by rw [HQL.out]; exact e
          have ct := HCE.out j hjl
          have hte := HQE.out _ (List.getElem_mem hjl)
          have htk : Q.take (j + 1) = Q.take j ++ [Q[j]] := List.take_succ_eq_append_getElem hjl
          have HB9 : Hid (b9 < wr.heap.size) := Lib.hid (World.block_lt_of_cell? wr _ ct)
          generalize Q[j] = t at *
          have HTJ := Lib.hid htk
          obtain ⟨cc, W2, hcv, hrw, hg, hc1, hc2⟩ := bytes_of_str_rw t wr (by simp only [maxLen]; omega)
          have hcm : cc ≤ 9223372036854775807 := by simp only [maxLen] at hc2; omega
          obtain ⟨y, hy⟩ : ∃ y, t.length = y := ⟨_, rfl⟩
          have HY := Lib.hid hy
          have HRW := Lib.hid hrw
          have HG2 := Lib.hid hg
          have hsz : (bs t).size = y := by rw [bs_size, hy]
          rw [hy] at hcv hc1 hte
          obtain ⟨T, hT⟩ : ∃ T, bs t = T := ⟨_, rfl⟩
          rw [hT] at hcv ct hsz
          have HTT := Lib.hid hT
          clear hjl htk hrw hg hc2 hy hT
          go_wp2
          go_loopw [78] (fun i wz => ∃ z : Nat, i = .int .i64 z ∧ z ≤ y ∧ Hid ((38 : UInt8) ∉ t.take z) ∧ wz = W2) (fun i _ => ((y : Int) - intOf i).toNat)
          case atStart => exact ⟨0, rfl, Nat.zero_le _, (by show _ ∉ _; simp), rfl⟩
          case round =>
            obtain ⟨z, rfl, hz, HZ, hwr⟩ := hrel
            obtain rfl := hwr.symm
            clear hwr
            by_cases e2 : z < y
            · have hzl : z < t.length := by rw [HY.out]; exact e2
              have kc := HRW.out.cell z (by rw [nums_length]; exact hzl)
              have hgd : (nums t).getD z 0 = (t[z].toNat : Int) := by simp [nums, List.getD_eq_getElem?_getD, hzl]
              rw [hgd] at kc
              have hno : t[z].toNat ≠ 38 → (38 : UInt8) ∉ t.take (z + 1) := fun h => by
                rw [List.take_succ_eq_append_getElem hzl]
                intro hm
                rcases List.mem_append.1 hm with hm | hm
                · exact HZ.out hm
                · rw [List.mem_singleton] at hm
                  exact h (by rw [← hm]; rfl)
              have hx := t[z].toNat_lt
              generalize t[z].toNat = x0 at *
              have HN0 := Lib.hid hno
              clear hno hzl hgd
              rcases h38 : ((x0 : Int) == 38) with _ | _
              · rcases h63 : ((x0 : Int) == 63) with _ | _
                · go_wp2
                  go_roundw
                  case rel => exact ⟨z + 1, by go_num, by omega, HN0.out (fun h => by rw [h] at h38; cases h38), by trivial⟩
                  case measure => simp [intOf]; omega
                · go_wp2_with (first
                    | (go_at_call 6; go_must (refine (HA _ (HU.out.gr (HGR.out.trans HG2.out)) (HT.out.gr (HGR.out.trans HG2.out))).out.mono ?_); rintro e w8 ⟨rfl, hg8⟩))
                  go_ret
                  exact ⟨rfl, (HGR.out.trans HG2.out).trans hg8⟩
              · go_wp2_with (first
                  | (go_at_call 6; go_must (refine (HA _ (HU.out.gr (HGR.out.trans HG2.out)) (HT.out.gr (HGR.out.trans HG2.out))).out.mono ?_); rintro e w8 ⟨rfl, hg8⟩))
                go_ret
                exact ⟨rfl, (HGR.out.trans HG2.out).trans hg8⟩
            · obtain rfl : z = y := by omega
              have HNT : Hid ((38 : UInt8) ∉ t) := Lib.hid (by
                have := HZ.out
                rwa [List.take_of_length_le (by rw [HY.out]; exact Nat.le_refl _)] at this)
              have HGZ := Lib.hid (HG2.out.alloc (.cells #[.string T] 9))
              have HOZ := Lib.hid (HO.out.gr HGZ.out)
              have HBZ := Lib.hid (HB.out.gr HGZ.out)
              have hHl : H ≤ (W2.alloc (.cells #[.string T] 9)).heap.size := by have := (HGR.out.trans HGZ.out).size; rw [HHH.out] at this; exact this
              have HHL := Lib.hid hHl
              have hcz : (W2.alloc (.cells #[.string T] 9)).cell? ⟨W2.heap.size, 0, none⟩ = some (.string (bs t)) := by rw [HTT.out]; exact (blk_cell (heap_new_at W2 _ rfl) 0).trans rfl
              have HCZ := Lib.hid hcz
              have hlim : (OL ++ Q.take j).length ≤ 900000 := by
                have h1 := HWL.out
                have h2 := HQB.out
                rw [List.length_append, List.length_take]
                omega
              have HLIM := Lib.hid hlim
              have HTL : Hid (OL ++ Q.take (j + 1) = (OL ++ Q.take j) ++ [t]) := Lib.hid (by rw [HTJ.out, List.append_assoc])
              have HNQ : Hid (∀ t ∈ Q.take (j + 1), (38 : UInt8) ∉ t) := Lib.hid (by
                rw [HTJ.out]
                intro r hr
                rcases List.mem_append.1 hr with hr | hr
                · exact HNO.out r hr
                · rw [List.mem_singleton] at hr
                  rw [hr]
                  exact HNT.out)
              have HB9Z : Hid (b9 < (W2.alloc (.cells #[.string T] 9)).heap.size) := Lib.hid (Nat.lt_of_lt_of_le HB9.out HGZ.out.size)
              clear hHl hcz hlim HZ e2 hz
              go_wp2_with (first
                | (at_builtin; go_must (refine wpList_append_rowB rfl _ _ rfl Tryz.underlying28 (B := H) (P := OL ++ Q.take j) rfl HOZ.out t ⟨W2.heap.size, 0, none⟩ rfl HCZ.out HLIM.out HHL.out ?_); intro v5 w5 ho5 hg5 hne5; have HO5 := Lib.hid ho5; have HG5 := Lib.hid hg5; have HN5 := Lib.hid hne5; clear ho5 hg5 hne5))
              go_roundw
              case rel =>
                refine ⟨j + 1, by go_num, by omega, ?_, ?_, ?_, HNQ, HBZ.out.byRow HOZ.out HG5.out, ?_⟩
                · show OwnT H w5 v5 _
                  rw [HTL.out]
                  exact HO5.out
                · intro e
                  rcases HN5.out with h | h
                  · exact HNE.out (h ▸ e)
                  · rw [h] at e
                    injection e with e
                    have := HB9Z.out
                    omega
                · intro j' hj'
                  exact HG5.out.cell (HGZ.out.cell (HCE.out j' hj')) (fun e => HNE.out e.symm)
                · have h := Below.trans (Below.mono (HGR.out.trans HGZ.out) (Nat.le_of_eq HHH.out.symm)) (OwnR.below HOZ.out HG5.out HHL.out)
                  show Below w.heap.size w w5
                  rw [HHH.out]
                  exact h
              case measure => simp [intOf]; omega
        · obtain rfl : j = q := by omega
          have hQt : Q.take j = Q := List.take_of_length_le (by rw [HQL.out]; exact Nat.le_refl _)
          rw [hQt] at HO HNO
          have HO2 : Hid (OwnT H wr u8 (optsL (l.take (k + 1)))) := Lib.hid (by rw [HTS.out]; exact HO.out)
          have HGT2 := Lib.hid (HGS.out HNO.out)
          clear hQt HO
          go_wp2
          go_roundw
          case rel => exact ⟨k + 1, by go_num, by omega, HGT2, HO2, HB, HGR⟩
          case measure => simp [intOf]; omega
    · obtain rfl : k = m := by omega
      have hlt : l.take k = l := List.take_of_length_le (by rw [HM.out]; exact Nat.le_refl _)
      rw [hlt] at HO HGT
      have hcnt := opts_count l HGT.out.ok
      have hml := HM.out
      have HCN : Hid ((optsL l).length ≤ 6020) := Lib.hid (by omega)
      have hHl : H ≤ wr.heap.size := by have := HGR.out.size; rw [HHH.out] at this; exact this
      have HSO := Lib.hid (slSort H u8 (optsL l) wr HO.out hHl (by omega))
      have hho := HHO.out
      have hsl := host_len S hho
      obtain ⟨hn0, hn1⟩ := HNN.out
      have HCH := fun W ht => Lib.hid (configHead S [115] [117] [112] n hn0 hn1 (by omega) (by decide) (by decide) (by decide) W ht)
      have HEAD := Lib.hid (url_head S hho (Lib.itoa n) [115] [117] [112])
      have HNO63 := Lib.hid (head_no63 S hho n)
      have HLEN : Hid ((headL S (Lib.itoa n) [115] [117] [112]).length ≤ 1000) := Lib.hid (by
        have e1 : esc [115] = [115] := by decide
        have e2 : esc [117] = [117] := by decide
        have e3 : esc [112] = [112] := by decide
        have := itoa_len n (by omega) (by omega)
        unfold headL
        rw [e1, e2, e3]
        simp
        omega)
      have HSP0 := fun W => Lib.hid (urlSplitNo (headL S (Lib.itoa n) [115] [117] [112]) HNO63.out (by have := HLEN.out; omega) W)
      have hopt0 : l ≠ [] → optsL l ≠ [] := fun h e => by
        cases l with
        | nil => exact h rfl
        | cons x l =>
          simp only [optsL, List.flatMap_cons, List.append_eq_nil_iff] at e
          rw [optL_parts] at e
          have := splitL_pos 44 (trimB x.v)
          simp only [List.map_eq_nil_iff] at e
          unfold partsO at e
          rw [e.1] at this
          simp at this
      by_cases h0 : l = []
      · have hk0 : k = 0 := by rw [← hml, h0]; rfl
        have hP0 : optsL l = [] := by rw [h0]; rfl
        rw [hP0] at HSO HO
        obtain ⟨p8, c8, hu8, _⟩ := OwnR.shape HO.out
        rw [show (strRow ([] : List (List UInt8))).length = 0 from rfl] at hu8
        have HUR := fun W hu ht => Lib.hid (implUrl0 S [115] [117] [112] n p c hn0 hn1 (by omega) (by decide) (by decide) (by decide) W hu ht)
        rw [HEAD.out] at HUR
        rw [HSB.out] at HUR HCH
        obtain ⟨HD, hHD⟩ : ∃ HD, bs (headL S (Lib.itoa n) [115] [117] [112]) = HD := ⟨_, rfl⟩
        rw [hHD] at HUR HCH HSP0
        have hq : (HD.toList == HD.toList) = true := by simp
        have HG0 := Lib.hid HGR.out
        subst hk0 hu8
        have HEQ := fun W => Lib.hid (slEqual1 p8 c8 W)
        clear hopt0 hP0 h0 hHD HNO63 HLEN HEAD hsl hho hml hcnt hlt HO HGT HC HCN HFX hHl HB hk
        go_wp2_with (first
          | (go_at_call 11; go_must (refine HSO.out.mono ?_); rintro e w5 ⟨rfl, ho5, hg5⟩; have HG5 : Hid (Gr w w5) := Lib.hid (Below.trans HG0.out (by rw [HHH.out]; exact hg5)); clear ho5 hg5)
          | (go_at_call 13; go_must (refine (HUR _ (HU.out.gr HG5.out) (HT.out.gr HG5.out)).out.mono ?_); rintro e w6 ⟨rfl, hg6⟩; have HG6 := Lib.hid (HG5.out.trans hg6); clear hg6)
          | (go_at_call 12; go_must (refine (HSP0 _).out.mono ?_); rintro e w7 ⟨rfl, hw⟩; obtain rfl := hw.symm)
          | (go_at_call 14; go_must (refine (HCH _ (HT.out.gr HG6.out)).out.mono ?_); rintro e w8 ⟨rfl, hg8⟩; have HG8 := Lib.hid (HG6.out.trans hg8); clear hg8)
          | (go_at_call 15; go_must (refine (HEQ _).out.mono ?_); rintro e w9 ⟨rfl, hw⟩; obtain rfl := hw.symm)
          | (go_at_call 6; go_must (refine (HA _ (HU.out.gr HG8.out) (HT.out.gr HG8.out)).out.mono ?_); rintro e w9 ⟨rfl, hg9⟩))
        go_ret
        exact ⟨rfl, HG8.out.trans hg9⟩
      · have hne := hopt0 h0
        have HPOS : Hid (0 < (sortT (optsL l)).length) := Lib.hid (by rw [sortT_len]; exact List.length_pos_iff.2 hne)
        have HSL : Hid ((sortT (optsL l)).length ≤ 10000000) := Lib.hid (by rw [sortT_len]; have := HCN.out; omega)
        have HUR := fun W hv hu ht hs => Lib.hid (implUrlO S [115] [117] [112] n hn0 hn1 (by omega) (by decide) (by decide) (by decide) (.slice p k c) l h0 (by omega) HGT.out.nd HGT.out.ok HGT.out.am W hv hu ht hs)
        rw [HEAD.out] at HUR
        have HSPL : ∀ l', l'.Perm l → ∀ W, Hid (Calls Tryz.prog 12 #[.string (bs (headL S (Lib.itoa n) [115] [117] [112] ++ 63 :: midL (optsL l')))] W fun e w' => (∃ v, e = .returned (.tuple #[.string (bs (headL S (Lib.itoa n) [115] [117] [112])), v]) ∧ OwnT W.heap.size w' v (sortT (optsL l))) ∧ Gr W w') := fun l' hl' W => Lib.hid (by
          have hok' : ∀ x ∈ l', OkO x := fun x hx => HGT.out.ok x (hl'.mem_iff.1 hx)
          have hlen' : l'.length ≤ 20 := by rw [hl'.length_eq]; omega
          have hpm := opts_perm hl'
          have hne' : optsL l' ≠ [] := fun e => hne (List.Perm.eq_nil (by rw [e] at hpm; exact hpm.symm))
          have ham' : ∀ t ∈ optsL l', (38 : UInt8) ∉ t := fun t ht => HGT.out.am t (hpm.mem_iff.1 ht)
          have hl1 := opts_len l' hok'
          rw [ampL_mid _ hne', List.length_append] at hl1
          have : l'.length * 310000 ≤ 20 * 310000 := Nat.mul_le_mul_right _ hlen'
          have hsp := splitL_mid (optsL l') hne' ham'
          have hc := opts_count l' hok'
          have := urlSplitAt (headL S (Lib.itoa n) [115] [117] [112]) (midL (optsL l')) HNO63.out (by have := HLEN.out; omega) (by omega) (by rw [hsp]; omega) W
          rw [hsp, sort_perm hpm] at this
          exact this)
        rw [HSB.out] at HUR HCH
        obtain ⟨HD, hHD⟩ : ∃ HD, bs (headL S (Lib.itoa n) [115] [117] [112]) = HD := ⟨_, rfl⟩
        rw [hHD] at HCH HSPL
        have hq : (HD.toList == HD.toList) = true := by simp
        have HG0 := Lib.hid HGR.out
        obtain ⟨TL, hTL⟩ : ∃ TL, sortT (optsL l) = TL := ⟨_, rfl⟩
        rw [hTL] at HSPL HPOS HSL HSO
        have HEQ : ∀ B1 B2 (a b : Value) W, OwnT B1 W a TL → OwnT B2 W b TL → Hid (Calls Tryz.prog 15 #[a, b] W fun e w' => e = .returned (.bool true) ∧ Gr W w') := fun B1 B2 a b W h1 h2 => Lib.hid (by
          have := slEqual W h1 h2 HPOS.out HPOS.out HSL.out HSL.out
          simpa using this)
        clear hopt0 hne h0 hHD HNO63 HLEN HEAD hsl hho hml hcnt hlt HO HGT HC HCN HFX hHl HB HSP0 hTL
        go_wp2_with (first
          | (go_at_call 11; go_must (refine HSO.out.mono ?_); rintro e w5 ⟨rfl, ho5, hg5⟩; have HG5 : Hid (Gr w w5) := Lib.hid (Below.trans HG0.out (by rw [HHH.out]; exact hg5)); have HO5 := Lib.hid ho5; clear ho5 hg5)
          | (go_at_call 13; go_must (refine (HUR _ (HV.out.gr HG5.out) (HU.out.gr HG5.out) (HT.out.gr HG5.out) (HS.out.gr HG5.out)).out.mono ?_); rintro e w6 ⟨⟨l', hl', rfl⟩, hg6⟩; have HL' := Lib.hid hl'; have HG6 := Lib.hid (HG5.out.trans hg6); have HO6 := Lib.hid (HO5.out.gr hg6); clear hg6 hl')
          | (go_at_call 12; go_must (refine (HSPL _ HL'.out _).out.mono ?_); rintro e w7 ⟨⟨v7, rfl, ho7⟩, hg7⟩; have HG7 := Lib.hid (HG6.out.trans hg7); have HO7 := Lib.hid (HO6.out.gr hg7); have HV7 := Lib.hid ho7; clear hg7 ho7)
          | (go_at_call 14; go_must (refine (HCH _ (HT.out.gr HG7.out)).out.mono ?_); rintro e w8 ⟨rfl, hg8⟩; have HG8 := Lib.hid (HG7.out.trans hg8); have HO8 := Lib.hid (HO7.out.gr hg8); have HV8 := Lib.hid (HV7.out.gr hg8); clear hg8)
          | (go_at_call 15; go_must (refine (HEQ _ _ _ _ _ HV8.out HO8.out).out.mono ?_); rintro e w9 ⟨rfl, hg9⟩; have HG9 := Lib.hid (HG8.out.trans hg9); clear hg9)
          | (go_at_call 6; go_must (refine (HA _ (HU.out.gr HG9.out) (HT.out.gr HG9.out)).out.mono ?_); rintro e w10 ⟨rfl, hg10⟩))
        go_ret
        exact ⟨rfl, HG9.out.trans hg10⟩
end Go.Proofs.YtpadpdmidiaeoaaGreatDoor
