/- FnServedFirst: the walk. -/
import Derived.Test.YtkonfcgdokabaaaDoorCfSl
namespace Go.Proofs.YtkonfcgdokabaaaDoor
open Go Go.RowKit

theorem sv_new (w : World) (T : TypeId) (H : Nat) (hH : w.heap.size = H) (s : Srv) : SvAt (w.alloc (.cells #[.string s.p, .string (bs s.a), .int .i64 s.n] T)) H 0 s := by
  have h := fun i => blk_cell (heap_new_at w (.cells #[.string s.p, .string (bs s.a), .int .i64 s.n] T) hH.symm) i
  exact ⟨(h 0).trans rfl, (h 1).trans rfl, (h 2).trans rfl⟩

set_option maxRecDepth 100000 in
set_option maxHeartbeats 4000000 in
theorem lawServedFirst (v : Value) (l : List Srv) (w : World) (h : RdSv w v l) :
    Calls Tryd.prog 4 #[v] w fun e w' => e = .returned (.bool true) ∧ Gr w w' := by
  have HF := Lib.hid (zfits4 v l w h)
  have HRD := Lib.hid h
  obtain ⟨p, c, rfl, hlc, hcm, _⟩ := h
  obtain ⟨n, hn⟩ : ∃ n, l.length = n := ⟨_, rfl⟩
  have hcm2 : c ≤ 9223372036854775807 := by simp only [maxLen] at hcm; omega
  rw [hn] at hlc HF HRD ⊢
  have HAW := fun W => Lib.hid (servedAwake W)
  by_cases hf : (decide (n ≤ 2147483647) && l.all Srv.fit) = true
  rotate_left
  · rw [Bool.not_eq_true] at hf
    rw [hf] at HF
    clear hf hn
    go_enter Tryd.func4, Tryd.ntmps4
    go_wp2_with (first
      | (go_at_call 8; go_must (refine HF.out.mono ?_); rintro e w1 ⟨rfl, hg1⟩))
    go_ret
    exact ⟨rfl, hg1⟩
  rw [hf] at HF
  have hal : ∀ s ∈ l, s.a.length ≤ 4000000000 := by
    intro s hs
    rw [Bool.and_eq_true] at hf
    have := List.all_eq_true.1 hf.2 s hs
    simp [Srv.fit] at this
    omega
  have HSR := fun W h => Lib.hid (serversR (.slice p n c) l W hal h)
  clear hf hal
  by_cases hok : srvOk l = true
  rotate_left
  · rw [Bool.not_eq_true] at hok
    rw [hok] at HSR
    clear hok hn
    go_enter Tryd.func4, Tryd.ntmps4
    go_wp2_with (first
      | (go_at_call 8; go_must (refine HF.out.mono ?_); rintro e w1 ⟨rfl, hg1⟩)
      | (go_at_call 9; go_must (refine (HSR _ (HRD.out.gr hg1)).out.mono ?_); rintro e w2 ⟨rfl, hg2⟩)
      | (go_at_call 10; go_must (refine (HAW _).out.mono ?_); rintro e w3 ⟨rfl, hg3⟩))
    go_ret
    exact ⟨rfl, (hg1.trans hg2).trans hg3⟩
  rw [hok] at HSR
  have hok2 : l.length ≤ 100 ∧ ∀ s ∈ l, s.good = true := by
    unfold srvOk at hok
    rw [Bool.and_eq_true, decide_eq_true_eq, List.all_eq_true] at hok
    exact hok
  obtain ⟨hl100, hgood⟩ := hok2
  have HCA := fun W h => Lib.hid (configAdds (.slice p n c) l W h hl100)
  have HSE := fun W v h => Lib.hid (served v (l.map (Stp.mk 0)) W h (by rw [List.length_map]; omega) (by
    intro x hx
    obtain ⟨s, hs, rfl⟩ := List.mem_map.1 hx
    exact .inl ⟨rfl, hgood s hs⟩))
  have hgl := Inf.gots_len (l.map (Stp.mk 0)) ⟨[], 0⟩
  unfold RetServed at HSE
  rw [all_adds] at HSE
  have hml := addL_len l []
  have HST := fun j hj => Lib.hid (addL_step l j hj)
  have HGD := Lib.hid hgood
  have HN := Lib.hid hn
  obtain ⟨m, hm⟩ : ∃ m, (addL [] l).length = m := ⟨_, rfl⟩
  have hm100 : m ≤ 100 := by simp at hml; omega
  have hn100 : n ≤ 100 := by omega
  have HM := Lib.hid hm
  clear hok hgood hn hl100 hgl hml hm
  go_enter Tryd.func4, Tryd.ntmps4
  go_wp2_with (first
    | (go_at_call 8; go_must (refine HF.out.mono ?_); rintro e w1 ⟨rfl, hg1⟩)
    | (go_at_call 9; go_must (refine (HSR _ (HRD.out.gr hg1)).out.mono ?_); rintro e w2 ⟨rfl, hg2⟩; have hG2 := hg1.trans hg2)
    | (go_at_call 16; go_must (refine (HCA _ (HRD.out.gr hG2)).out.mono ?_); rintro e w3 ⟨u, rfl, ho3, hg3⟩; have hG3 := hG2.trans hg3)
    | (go_at_call 14; go_must (refine (HSE _ _ ho3.rdStp).out.mono ?_); rintro e w4 ⟨ov, bv, av, rfl, ho, hb, ha, hg4⟩; have HG4 := Lib.hid (hG3.trans hg4); have ha := ha.rdSv; obtain ⟨po, co, rfl, _⟩ := ho.shape; obtain ⟨pb, cb, rfl, _⟩ := hb.shape; obtain ⟨pa, ca, rfl, hac, hacm, hat⟩ := id ha; rw [HM.out] at ha hac ⊢; have HAT := Lib.hid hat; have hca2 : ca ≤ 9223372036854775807 := (by simp only [maxLen] at hacm; omega); clear ho hb ho3 hat ha hg1 hg2 hg3 hg4 hG2 hG3 hacm))
  go_loopw [25, 6] (fun i kv wr => ∃ j : Nat, i = .int .i64 j ∧ j ≤ n ∧ kv = .int .i64 ((addL [] (l.take j)).length : Nat) ∧ Gr w4 wr) (fun i _ _ => ((n : Int) - intOf i).toNat)
  case atStart => exact ⟨0, rfl, Nat.zero_le _, rfl, Gr.refl _⟩
  case round =>
    obtain ⟨j, rfl, hj, rfl, hgr⟩ := hrel
    by_cases e : j < n
    · have hjl : j < l.length := by rw [HN.out]; exact e
      have hrt := (HRD.out.gr (HG4.out.trans hgr)).take j (by omega)
      obtain ⟨_, _, hpe, _, _, hcc⟩ := HRD.out.gr (HG4.out.trans hgr)
      obtain ⟨b, o, hpb, hc⟩ := hcc (by omega)
      simp only [Value.slice.injEq] at hpe
      obtain ⟨rfl, hx1, hx2⟩ := hpe
      clear hx1 hx2
      obtain rfl := hpb
      obtain ⟨k0, k1, k2⟩ := hc j hjl
      have hst := (HST j hjl).out
      have hgj := HGD.out l[j] (List.getElem_mem hjl)
      have hgt : ∀ x ∈ l.take j, x.good = true := fun x hx => HGD.out x (List.mem_of_mem_take hx)
      have hkl : (addL [] (l.take j)).length ≤ 100 := by have := addL_len (l.take j) []; rw [List.length_take] at this; simp at this; omega
      have HCF := fun B W hh cc => Lib.hid (contains_first (.slice (some ⟨b, o, none⟩) j c) (l.take j) (l[j]'hjl) B W hh hgt hgj cc)
      have HRT := Lib.hid hrt
      clear hrt hc hcc hgj hgt
      generalize l[j] = s at *
      generalize ((l.take j).any fun x => srvSame x s) = q at *
      have HGR := Lib.hid hgr
      have hsz := hgr.size
      cases q
      · simp only [Bool.false_eq_true, if_false] at hst
        obtain ⟨hlen, hlt, hget⟩ := hst
        obtain ⟨ba, oa, rfl, hcA⟩ := HAT.out (by omega)
        have hcA := hcA _ hlt
        rw [hget] at hcA
        have hltm : (addL [] (l.take j)).length < m := by rw [← HM.out]; exact hlt
        have HLEN := Lib.hid hlen
        clear hlt hget hlen hgr
        generalize (addL [] (l.take j)).length = k at *
        obtain ⟨y0, y1, y2⟩ := hcA
        have HY := fun (W : World) (g : Gr w4 W) => Lib.hid (And.intro (g.cell y0) (And.intro (g.cell y1) (g.cell y2)))
        clear y0 y1 y2
        go_wp2_with (first
          | (go_at_call 11; go_must (refine (HCF _ _ (HRT.out.gr ((Gr.refl wr).alloc _)) (sv_new _ _ _ rfl s)).out.mono ?_); rintro e w5 ⟨rfl, hg5⟩; obtain ⟨x0, x1, x2⟩ := (sv_new wr 26 _ rfl s).gr hg5; simp only [Nat.zero_add] at x1 x2; have HG5 := Lib.hid (HGR.out.trans (((Gr.refl wr).alloc _).trans hg5)); obtain ⟨y0, y1, y2⟩ := (HY _ HG5.out).out; clear hg5))
        generalize bs s.a = S1 at *
        have hmk : decide ((m : Int) ≤ (k : Int)) = false := by simp; omega
        have hmk2 : ((m : Int) ≤ (k : Int)) = False := by simp; omega
        have hmk3 : (m ≤ k) = False := by simp; omega
        go_region_held3 (fun w' => w'.cell? ⟨wr.heap.size, 0, none⟩ = some (.string s.p) ∧ w'.cell? ⟨wr.heap.size, 1, none⟩ = some (.string S1) ∧ w'.cell? ⟨wr.heap.size, 2, none⟩ = some (.int .i64 s.n) ∧ w'.cell? ⟨ba, oa + k * 3, none⟩ = some (.string s.p) ∧ w'.cell? ⟨ba, oa + k * 3 + 1, none⟩ = some (.string S1) ∧ w'.cell? ⟨ba, oa + k * 3 + 2, none⟩ = some (.int .i64 s.n)) (go_keep) (fail)
        all_goals go_wp2
        all_goals go_roundw
        case rel => exact ⟨j + 1, by go_num, by omega, by rw [HLEN.out]; go_num, HG5.out.drew⟩
        case measure => simp [intOf]; omega
      · simp only [if_true] at hst
        have HLEN := Lib.hid (congrArg List.length hst)
        clear hst hgr
        generalize (addL [] (l.take j)).length = k at *
        go_wp2_with (first
          | (go_at_call 11; go_must (refine (HCF _ _ (HRT.out.gr ((Gr.refl wr).alloc _)) (sv_new _ _ _ rfl s)).out.mono ?_); rintro e w5 ⟨rfl, hg5⟩; have HG5 := Lib.hid (HGR.out.trans (((Gr.refl wr).alloc _).trans hg5)); clear hg5))
        go_roundw
        case rel => exact ⟨j + 1, by go_num, by omega, by rw [HLEN.out], HG5.out⟩
        case measure => simp [intOf]; omega
    · obtain rfl : n = j := by omega
      have et : l.take n = l := by rw [← HN.out, List.take_length]
      rw [et, HM.out]
      clear et
      have HGR := Lib.hid hgr
      clear hgr
      go_wp2_with (first
        | (go_at_call 10; go_must (refine (HAW _).out.mono ?_); rintro e w5 ⟨rfl, hg5⟩))
      go_ret
      exact ⟨rfl, HG4.out.trans (HGR.out.trans hg5)⟩
end Go.Proofs.YtkonfcgdokabaaaDoor
