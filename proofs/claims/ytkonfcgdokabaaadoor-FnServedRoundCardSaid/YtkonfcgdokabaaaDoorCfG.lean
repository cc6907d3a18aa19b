/- FnServedRound: the walk. -/
import Derived.Test.YtkonfcgdokabaaaDoorCfF
import Derived.Test.YtkonfcgdokabaaaDoorCfSg
import Derived.Test.YtkonfcgdokabaaaDoorCfSm
import Derived.Test.YtkonfcgdokabaaaDoorCfSn
namespace Go.Proofs.YtkonfcgdokabaaaDoor
open Go Go.RowKit

/-- The servers that are met once, and the steps, while the steps are made. -/
structure Rn (C : Nat) (w0 w : World) (ov sv : Value) (A : List Srv) (T : List Stp) : Prop where
  once : OwnR 26 3 C w ov (A.map Srv.cs)
  stp : OwnR 32 4 C w sv (T.map Stp.cs)
  below : Below C w0 w
  hC : C ≤ w.heap.size
theorem Rn.gr {C : Nat} {w0 a b : World} {ov sv : Value} {A : List Srv} {T : List Stp} (h : Rn C w0 a ov sv A T) (g : Gr a b) : Rn C w0 b ov sv A T :=
  ⟨OwnR.gr h.once g, OwnR.gr h.stp g, h.below.trans (Below.mono g h.hC), Nat.le_trans h.hC g.size⟩
theorem Rn.grow {C : Nat} {w0 a b : World} {ov sv sv' : Value} {A : List Srv} {T U : List Stp} (h : Rn C w0 a ov sv A T) (h1 : OwnR 32 4 C b sv' (T.map Stp.cs ++ U.map Stp.cs)) (g : a.grownBy b sv.ownBlock) : Rn C w0 b ov sv' A (T ++ U) := by
  have hb := h.stp.below g h.hC
  exact ⟨h.once.other h.stp g (by decide), by rw [List.map_append]; exact h1, h.below.trans hb, Nat.le_trans h.hC hb.size⟩
theorem stp_all (U : List Stp) : ∀ c ∈ U.map Stp.cs, c.length = 4 ∧ ∀ u ∈ c, u.oneCell' = true := by
  intro c hc
  obtain ⟨x, _, rfl⟩ := List.mem_map.1 hc
  exact stp_one x _ (List.mem_cons_self ..)
theorem round_take (l : List Srv) (j : Nat) (hj : j < l.length) : (l.take (j + 1)).map (Stp.mk 0) = (l.take j).map (Stp.mk 0) ++ [⟨0, l[j]⟩] := by
  rw [List.take_succ_eq_append_getElem hj, List.map_append]
  rfl
theorem round_jump (l : List Srv) (j : Nat) : l.map (Stp.mk 0) ++ (⟨1, noSrv⟩ :: List.replicate (j + 1) ⟨2, noSrv⟩) = (l.map (Stp.mk 0) ++ (⟨1, noSrv⟩ :: List.replicate j ⟨2, noSrv⟩)) ++ [⟨2, noSrv⟩] := by
  rw [List.replicate_succ']
  simp
theorem round_end (l : List Srv) (m : Nat) : (l.map (Stp.mk 0) ++ (⟨1, noSrv⟩ :: List.replicate m ⟨2, noSrv⟩)) ++ [⟨3, noSrv⟩, ⟨1, noSrv⟩] = roundS l m := by
  simp [roundS]

set_option maxRecDepth 100000 in
set_option maxHeartbeats 4000000 in
theorem lawServedRound (v : Value) (l : List Srv) (w : World) (h : RdSv w v l) :
    Calls Tryd.prog 3 #[v] w fun e w' => e = .returned (.bool true) ∧ Gr w w' := by
  have HF := Lib.hid (zfits4 v l w h)
  have HRD := Lib.hid h
  obtain ⟨p, c, rfl, hlc, hcm, _⟩ := h
  obtain ⟨n, hn⟩ : ∃ n, l.length = n := ⟨_, rfl⟩
  have hcm2 : c ≤ 9223372036854775807 := by simp only [maxLen] at hcm; omega
  rw [hn] at hlc HF HRD ⊢
  have HAW := fun W => Lib.hid (servedAwake W)
  by_cases hf : (decide (n ≤ 2147483647) && l.all Srv.fit) = true
  rotate_left
  · rw [Bool.not_eq_true] at hf
    rw [hf] at HF
    clear hf hn
    go_enter Tryd.func3, Tryd.ntmps3
    go_wp2_with (first
      | (go_at_call 8; go_must (refine HF.out.mono ?_); rintro e w1 ⟨rfl, hg1⟩))
    go_ret
    exact ⟨rfl, hg1⟩
  rw [hf] at HF
  have hal : ∀ s ∈ l, s.a.length ≤ 4000000000 := by
    intro s hs
    rw [Bool.and_eq_true] at hf
    have := List.all_eq_true.1 hf.2 s hs
    simp [Srv.fit] at this
    omega
  have HSR := fun W h => Lib.hid (serversR (.slice p n c) l W hal h)
  clear hf hal
  by_cases hok : srvOk l = true
  rotate_left
  · rw [Bool.not_eq_true] at hok
    rw [hok] at HSR
    clear hok hn
    go_enter Tryd.func3, Tryd.ntmps3
    go_wp2_with (first
      | (go_at_call 8; go_must (refine HF.out.mono ?_); rintro e w1 ⟨rfl, hg1⟩)
      | (go_at_call 9; go_must (refine (HSR _ (HRD.out.gr hg1)).out.mono ?_); rintro e w2 ⟨rfl, hg2⟩)
      | (go_at_call 10; go_must (refine (HAW _).out.mono ?_); rintro e w3 ⟨rfl, hg3⟩))
    go_ret
    exact ⟨rfl, (hg1.trans hg2).trans hg3⟩
  rw [hok] at HSR
  have hok2 : l.length ≤ 100 ∧ ∀ s ∈ l, s.good = true := by
    unfold srvOk at hok
    rw [Bool.and_eq_true, decide_eq_true_eq, List.all_eq_true] at hok
    exact hok
  obtain ⟨hl100, hgood⟩ := hok2
  have hok3 := hok
  have hnx := fun j hj => addL_next l j hj
  have hgA := addL_good l [] (by simp) hgood
  have hgj : ∀ j, ∀ s ∈ addL [] (l.take j), s.good = true := fun j => addL_good (l.take j) [] (by simp) (fun s hs => hgood s (List.mem_of_mem_take hs))
  have hlj : ∀ j, (addL [] (l.take j)).length ≤ 100 := fun j => by have := addL_len (l.take j) []; rw [List.length_take] at this; simp at this; omega
  have HNX := fun j hj => Lib.hid (hnx j hj)
  have HGJ := Lib.hid hgj
  have HLJ := Lib.hid hlj
  have HGD := Lib.hid hgood
  have HN := Lib.hid hn
  have hn100 : n ≤ 100 := by omega
  obtain ⟨H, hH⟩ : ∃ H, w.heap.size = H := ⟨_, rfl⟩
  clear hok hok3 hgood hn hl100 hnx hgA hgj hlj
  go_enter Tryd.func3, Tryd.ntmps3
  go_wp2_with (first
    | (go_at_call 8; go_must (refine HF.out.mono ?_); rintro e w1 ⟨rfl, hg1⟩)
    | (go_at_call 9; go_must (refine (HSR _ (HRD.out.gr hg1)).out.mono ?_); rintro e w2 ⟨rfl, hg2⟩; have hG2 := Lib.hid (hg1.trans hg2); clear hg1 hg2))
  go_loopw [25, 3] (fun i ov wr => ∃ j : Nat, i = .int .i64 j ∧ j ≤ n ∧ OwnR 26 3 H wr ov ((addL [] (l.take j)).map Srv.cs) ∧ Gr w wr) (fun i _ _ => ((n : Int) - intOf i).toNat)
  case atStart => exact ⟨0, rfl, Nat.zero_le _, OwnR.nil _ _ _ _, hG2.out⟩
  case round =>
    obtain ⟨j, rfl, hj, hown, hgr⟩ := hrel
    have hsz := hgr.size
    rw [hH] at hsz
    by_cases e : j < n
    · have hjl : j < l.length := by rw [HN.out]; exact e
      obtain ⟨_, _, hpe, _, _, hcc⟩ := HRD.out.gr hgr
      obtain ⟨b, o, hpb, hc⟩ := hcc (by omega)
      simp only [Value.slice.injEq] at hpe
      obtain ⟨rfl, hx1, hx2⟩ := hpe
      clear hx1 hx2
      obtain rfl := hpb
      obtain ⟨k0, k1, k2⟩ := hc j hjl
      have hnx := (HNX j hjl).out
      have hgs := HGD.out l[j] (List.getElem_mem hjl)
      have hgo := HGJ.out j
      have hlo := HLJ.out j
      obtain ⟨po, co, rfl, _⟩ := id hown.shape
      simp only [List.length_map] at hown ⊢
      have hrow : ∀ W, Gr wr W → RdSv W (.slice po (addL [] (l.take j)).length co) (addL [] (l.take j)) := fun W g => (OwnR.gr hown g).rdSv
      have HCF := fun B W hh cc => Lib.hid (contains_round (.slice po (addL [] (l.take j)).length co) (addL [] (l.take j)) (l[j]'hjl) B W hh hgo hgs cc)
      have HOW := Lib.hid hown
      have HROW := Lib.hid hrow
      have HGR := Lib.hid hgr
      have HNXX := Lib.hid hnx
      clear hown hrow hgr hgs hgo hc hcc hnx
      generalize l[j] = s at *
      generalize addL [] (l.take j) = tk at *
      generalize hq : (tk.any fun x => srvSame x s) = q at *
      have HZ := Lib.hid (show [Srv.cs s].flatten = [.string s.p, .string (bs s.a), .int .i64 s.n] by simp [Srv.cs])
      clear hq
      cases q
      · go_wp2_with (first
          | (go_at_call 11; go_must (refine (HCF _ _ (HROW.out _ ((Gr.refl wr).alloc _)) (sv_new _ _ _ rfl s)).out.mono ?_); rintro e w5 ⟨rfl, hg5⟩; obtain ⟨x0, x1, x2⟩ := (sv_new wr 26 _ rfl s).gr hg5; simp only [Nat.zero_add] at x1 x2; have HG5 := Lib.hid (((Gr.refl wr).alloc _).trans hg5); have s5 := HG5.out.size; clear hg5)
          | (at_builtin; go_must (refine wpList_append_row rfl _ _ rfl Tryd.underlying22 svInfo rfl (by decide) (by decide) (B := H) (cs := tk.map Srv.cs) rfl (OwnR.gr HOW.out (HG5.out.alloc _)) [s.cs] (sv_one s) ⟨w5.heap.size, 0, none⟩ 1 1 rfl rfl (cells_new rfl HZ.out) (by rw [List.length_map]; omega) (by simp; omega) ?_); intro v6 w6 ho6 hg6; have HO6 := Lib.hid ho6; have HB6 := Lib.hid (Below.trans (Below.mono (HGR.out.trans (HG5.out.alloc _)) (by omega)) ((OwnR.gr HOW.out (HG5.out.alloc _)).below hg6 (by simp; omega))); clear ho6 hg6))
        go_roundw
        case rel => exact ⟨j + 1, by go_num, by omega, by rw [HNXX.out]; simp only [Bool.false_eq_true, if_false, List.map_append, List.map_cons, List.map_nil]; exact HO6.out, by have := HB6.out; rw [← hH] at this; exact this⟩
        case measure => simp [intOf]; omega
      · go_wp2_with (first
          | (go_at_call 11; go_must (refine (HCF _ _ (HROW.out _ ((Gr.refl wr).alloc _)) (sv_new _ _ _ rfl s)).out.mono ?_); rintro e w5 ⟨rfl, hg5⟩; have HG5 := Lib.hid (((Gr.refl wr).alloc _).trans hg5); clear hg5))
        go_roundw
        case rel => exact ⟨j + 1, by go_num, by omega, by rw [HNXX.out]; simp only [if_true]; exact OwnR.gr HOW.out HG5.out, HGR.out.trans HG5.out⟩
        case measure => simp [intOf]; omega
    · obtain rfl : n = j := by omega
      have et : l.take n = l := by rw [← HN.out, List.take_length]
      rw [et] at hown
      obtain ⟨m, hm⟩ : ∃ m, (addL [] l).length = m := ⟨_, rfl⟩
      have hm100 : m ≤ 100 := by have := HLJ.out n; rw [et, hm] at this; exact this
      clear et
      obtain ⟨po, co, rfl, hpc1, hpc2, hpc3⟩ := id hown.shape
      simp only [List.length_map] at hown hpc1 ⊢
      rw [hm] at hown hpc1 ⊢
      have hco2 : co ≤ 9223372036854775807 := by simp only [maxLen] at hpc2; omega
      have HM := Lib.hid hm
      have HR1 : Hid (Rn H w wr (.slice po m co) (.slice none 0 0) (addL [] l) []) := Lib.hid ⟨hown, OwnR.nil _ _ _ _, by have := hgr; rw [← hH]; exact this, hsz⟩
      clear hown hm hpc2 hpc3 hgr hsz hG2 HNX HGJ HLJ
      generalize wr = wA at *
      go_wp2
      go_loopw [40, 6] (fun i sv wz => ∃ t : Nat, i = .int .i64 t ∧ t ≤ n ∧ Rn H w wz (.slice po m co) sv (addL [] l) ((l.take t).map (Stp.mk 0))) (fun i _ _ => ((n : Int) - intOf i).toNat)
      case atStart => exact ⟨0, rfl, Nat.zero_le _, HR1.out⟩
      case round =>
        obtain ⟨t, rfl, ht, hrn⟩ := hrel
        have hlt : ((l.take t).map (Stp.mk 0)).length = t := by rw [List.length_map, List.length_take, HN.out]; omega
        by_cases e2 : t < n
        · have htl : t < l.length := by rw [HN.out]; exact e2
          obtain ⟨_, _, hpe, _, _, hcc⟩ := HRD.out.gr (show Gr w wr by have := hrn.below; rw [← hH] at this; exact this)
          obtain ⟨b, o, hpb, hc⟩ := hcc (by omega)
          simp only [Value.slice.injEq] at hpe
          obtain ⟨rfl, hx1, hx2⟩ := hpe
          clear hx1 hx2
          obtain rfl := hpb
          obtain ⟨k0, k1, k2⟩ := hc t htl
          have hrt := round_take l t htl
          obtain ⟨ps, cs, rfl, _⟩ := id hrn.stp.shape
          simp only [List.length_map, hlt] at hrn ⊢
          have hlt2 : (l.take t).length = t := by rw [List.length_take, HN.out]; omega
          generalize l[t] = s at *
          have HZ := Lib.hid (show ([(⟨0, s⟩ : Stp)].map Stp.cs).flatten = [.int .i64 0, .string s.p, .string (bs s.a), .int .i64 s.n] by simp [Stp.cs, Srv.cs])
          have HRN := Lib.hid hrn
          have HRT := Lib.hid hrt
          have HLT := Lib.hid hlt
          clear hrn hrt hlt hlt2 hc hcc
          go_wp2_with (first
            | (at_builtin; go_must (refine wpList_append_row rfl _ _ rfl Tryd.underlying30 stpInfo rfl (by decide) (by decide) (B := H) (cs := ((l.take t).map (Stp.mk 0)).map Stp.cs) rfl (HRN.out.gr (((Gr.refl wr).alloc _).alloc _)).stp ([⟨0, s⟩].map Stp.cs) (stp_all [⟨0, s⟩]) ⟨wr.heap.size + 1, 0, none⟩ 1 1 rfl rfl (cells_new (by first | rfl | simp) HZ.out) (by rw [List.length_map, HLT.out]; omega) (HRN.out.gr (((Gr.refl wr).alloc _).alloc _)).hC ?_); intro v6 w6 ho6 hg6; have HR6 := Lib.hid ((HRN.out.gr (((Gr.refl wr).alloc _).alloc _)).grow (U := [⟨0, s⟩]) ho6 hg6); obtain ⟨p6, c6, rfl, _⟩ := id ho6.shape; simp only [List.length_append, List.length_map, List.length_take, List.length_cons, List.length_nil, Nat.zero_add] at HR6; clear ho6 hg6))
          go_roundw
          case rel => exact ⟨t + 1, by go_num, by omega, by rw [HRT.out]; exact HR6.out⟩
          case measure => simp [intOf]; omega
        · obtain rfl : n = t := by omega
          have et : l.take n = l := by rw [← HN.out, List.take_length]
          rw [et] at hrn
          clear et hlt
          obtain ⟨ps, cs, rfl, _⟩ := id hrn.stp.shape
          simp only [List.length_map] at hrn ⊢
          rw [HN.out] at hrn ⊢
          have HRN := Lib.hid hrn
          clear hrn HR1
          have HZ1 := Lib.hid (show ([(⟨1, noSrv⟩ : Stp)].map Stp.cs).flatten = [.int .i64 1, .string ⟨#[]⟩, .string ⟨#[]⟩, .int .i64 0] by simp [Stp.cs, Srv.cs, noSrv, bs])
          have HZ2 := Lib.hid (show ([(⟨2, noSrv⟩ : Stp)].map Stp.cs).flatten = [.int .i64 2, .string ⟨#[]⟩, .string ⟨#[]⟩, .int .i64 0] by simp [Stp.cs, Srv.cs, noSrv, bs])
          have HZ3 := Lib.hid (show ([(⟨3, noSrv⟩ : Stp), ⟨1, noSrv⟩].map Stp.cs).flatten = [.int .i64 3, .string ⟨#[]⟩, .string ⟨#[]⟩, .int .i64 0, .int .i64 1, .string ⟨#[]⟩, .string ⟨#[]⟩, .int .i64 0] by simp [Stp.cs, Srv.cs, noSrv, bs])
          go_wp2_with (first
            | (at_builtin; go_must (refine wpList_append_row rfl _ _ rfl Tryd.underlying30 stpInfo rfl (by decide) (by decide) (B := H) (cs := (l.map (Stp.mk 0)).map Stp.cs) rfl (HRN.out.gr ((Gr.refl wr).alloc _)).stp ([⟨1, noSrv⟩].map Stp.cs) (stp_all [⟨1, noSrv⟩]) ⟨wr.heap.size, 0, none⟩ 1 1 rfl rfl (cells_new (by first | rfl | simp) HZ1.out) (by have := HN.out; simp; omega) (HRN.out.gr ((Gr.refl wr).alloc _)).hC ?_); intro v6 w6 ho6 hg6; have HR6 := Lib.hid ((HRN.out.gr ((Gr.refl wr).alloc _)).grow (U := [⟨1, noSrv⟩]) ho6 hg6); obtain ⟨p6, c6, rfl, _⟩ := id ho6.shape; simp only [List.length_append, List.length_map, List.length_replicate, List.length_cons, List.length_nil, Nat.zero_add] at HR6; clear ho6 hg6))
          generalize w6 = wB at *
          go_loopw [58, 6] (fun i sv wz => ∃ q : Nat, i = .int .i64 q ∧ q ≤ m ∧ Rn H w wz (.slice po m co) sv (addL [] l) (l.map (Stp.mk 0) ++ (⟨1, noSrv⟩ :: List.replicate q ⟨2, noSrv⟩))) (fun i _ _ => ((m : Int) - intOf i).toNat)
          case atStart => exact ⟨0, rfl, Nat.zero_le _, HR6.out⟩
          case round =>
            obtain ⟨q, rfl, hq, hrn⟩ := hrel
            have HRJ := Lib.hid (round_jump l q)
            have HRE := Lib.hid (round_end l q)
            have hTl : (l.map (Stp.mk 0) ++ (⟨1, noSrv⟩ :: List.replicate q ⟨2, noSrv⟩) : List Stp).length = n + 1 + q := by have := HN.out; simp; omega
            generalize (l.map (Stp.mk 0) ++ (⟨1, noSrv⟩ :: List.replicate q ⟨2, noSrv⟩) : List Stp) = T at *
            obtain ⟨pt, ct, rfl, _⟩ := id hrn.stp.shape
            rw [List.length_map] at hrn ⊢
            obtain ⟨tl, htl⟩ : ∃ tl, T.length = tl := ⟨_, rfl⟩
            rw [htl] at hrn hTl ⊢
            have HTL := Lib.hid htl
            clear htl
            have HRN2 := Lib.hid hrn
            clear hrn HR6
            by_cases e3 : q < m
            · go_wp2_with (first
                | (at_builtin; go_must (refine wpList_append_row rfl _ _ rfl Tryd.underlying30 stpInfo rfl (by decide) (by decide) (B := H) (cs := T.map Stp.cs) rfl (HRN2.out.gr ((Gr.refl wr).alloc _)).stp ([⟨2, noSrv⟩].map Stp.cs) (stp_all [⟨2, noSrv⟩]) ⟨wr.heap.size, 0, none⟩ 1 1 rfl rfl (cells_new (by first | rfl | simp) HZ2.out) (by have := HTL.out; rw [List.length_map]; omega) (HRN2.out.gr ((Gr.refl wr).alloc _)).hC ?_); intro v6 w6 ho6 hg6; have HR6 := Lib.hid ((HRN2.out.gr ((Gr.refl wr).alloc _)).grow (U := [⟨2, noSrv⟩]) ho6 hg6); obtain ⟨p6, c6, rfl, _⟩ := id ho6.shape; simp only [List.length_append, List.length_map, List.length_replicate, List.length_cons, List.length_nil, Nat.zero_add] at HR6; clear ho6 hg6))
              go_roundw
              case rel => exact ⟨q + 1, by go_num, by omega, by rw [HRJ.out]; exact HR6.out⟩
              case measure => simp [intOf]; omega
            · obtain rfl : m = q := by omega
              have HSE := fun W v h => Lib.hid (served v (roundS l m) W h (by rw [roundS_len, HN.out]; omega) (round_kinds l m HGD.out))
              unfold RetServed at HSE
              rw [round_all] at HSE
              have hgl := Inf.gots_len (roundS l m) ⟨[], 0⟩
              rw [roundS_len, HN.out] at hgl
              have HGT := fun i hi => Lib.hid (round_got l m i hi)
              have HLS := Lib.hid (round_last l m)
              rw [HN.out] at HLS
              have HRL := roundS_len l m
              rw [HN.out] at HRL
              generalize Inf.gots ⟨[], 0⟩ (roundS l m) = G at *
              have HGL := Lib.hid hgl
              clear hgl
              have HEQ := fun W v u h1 h2 => Lib.hid (equalServers v u (addL [] l) W h1 h2)
              go_wp2_with (first
                | (at_builtin; go_must (refine wpList_append_row rfl _ _ rfl Tryd.underlying30 stpInfo rfl (by decide) (by decide) (B := H) (cs := T.map Stp.cs) rfl (HRN2.out.gr ((Gr.refl wr).alloc _)).stp ([⟨3, noSrv⟩, ⟨1, noSrv⟩].map Stp.cs) (stp_all [⟨3, noSrv⟩, ⟨1, noSrv⟩]) ⟨wr.heap.size, 0, none⟩ 2 2 rfl rfl (cells_new (by first | rfl | simp) HZ3.out) (by have := HTL.out; rw [List.length_map]; omega) (HRN2.out.gr ((Gr.refl wr).alloc _)).hC ?_); intro v6 w6 ho6 hg6; have hr6 := (HRN2.out.gr ((Gr.refl wr).alloc _)).grow (U := [⟨3, noSrv⟩, ⟨1, noSrv⟩]) ho6 hg6; rw [HRE.out] at hr6; obtain ⟨p6, c6, rfl, _⟩ := id hr6.stp.shape; rw [List.length_map, HRL] at hr6 ⊢; have HR6 := Lib.hid hr6; clear ho6 hg6 hr6)
                | (go_at_call 14; go_must (refine (HSE _ _ HR6.out.stp.rdStp).out.mono ?_); rintro e w7 ⟨ov, bv, av, rfl, ho, hb, ha, hg7⟩; have HO := Lib.hid ho; have HB := Lib.hid hb; have HA := Lib.hid ha; have HW7 := Lib.hid (HR6.out.gr hg7); obtain ⟨pu, cu, rfl, hcu, hcum, _⟩ := ho.shape; obtain ⟨pb, cb, rfl, hcb, hcbm, _⟩ := hb.shape; obtain ⟨pa, ca, rfl, hca, hcam, _⟩ := ha.shape; rw [List.length_map, HGL.out] at HO hcu ⊢; rw [List.length_map, HGL.out] at HB hcb ⊢; rw [List.length_map, HM.out] at HA hca ⊢; clear ho hb ha hg7)
                | (go_at_call 15; go_must (refine (HEQ _ _ _ HA.out.rdSv HW7.out.once.rdSv).out.mono ?_); rintro e w8 ⟨rfl, hg8⟩))
              have hcu2 : cu ≤ 9223372036854775807 := by simp only [maxLen] at hcum; omega
              have hcb2 : cb ≤ 9223372036854775807 := by simp only [maxLen] at hcbm; omega
              have HG8 := Lib.hid hg8
              clear hg8 hcum hcbm hcam
              go_loopw [96] (fun i wz => ∃ q : Nat, i = .int .i64 q ∧ q ≤ m ∧ Gr w8 wz) (fun i _ => ((m : Int) - intOf i).toNat)
              case atStart => exact ⟨0, rfl, Nat.zero_le _, Gr.refl _⟩
              case round =>
                obtain ⟨q, rfl, hq2, hgr⟩ := hrel
                by_cases e4 : q < m
                · have hqA : q < (addL [] l).length := by rw [HM.out]; exact e4
                  have hg7 := HG8.out.trans hgr
                  obtain ⟨_, _, hpe, _, _, hcc⟩ := (OwnR.gr HW7.out.once hg7).rdSv
                  obtain ⟨b, o, hpb, hc⟩ := hcc (by omega)
                  simp only [Value.slice.injEq] at hpe
                  obtain ⟨rfl, hx1, hx2⟩ := hpe
                  clear hx1 hx2
                  obtain rfl := hpb
                  obtain ⟨k0, k1, k2⟩ := hc q hqA
                  have hgq := (HGT q (by omega)).out
                  rw [HN.out, List.getElem?_eq_getElem hqA] at hgq
                  obtain ⟨bb, cb', hvb, _, _, _, _, hatb⟩ := (OwnR.gr HB.out hg7).at' (by rw [List.length_map, HGL.out]; omega)
                  simp only [Value.slice.injEq] at hvb
                  obtain ⟨rfl, hx1, rfl⟩ := hvb
                  clear hx1
                  obtain ⟨bu, cu', hvu, _, _, _, _, hatu⟩ := (OwnR.gr HO.out hg7).at' (by rw [List.length_map, HGL.out]; omega)
                  simp only [Value.slice.injEq] at hvu
                  obtain ⟨rfl, hx1, rfl⟩ := hvu
                  clear hx1
                  generalize (addL [] l)[q] = s at *
                  obtain ⟨r, hr⟩ : ∃ r, n + q = r := ⟨_, rfl⟩
                  rw [hr] at hgq
                  have hsb : (G.map isCs)[r]? = some (isCs (some s)) := by rw [List.getElem?_map, hgq]; rfl
                  have hsu : (G.map outCs)[r]? = some (outCs (some s)) := by rw [List.getElem?_map, hgq]; rfl
                  have z0 : wr.cell? ⟨bb, r, none⟩ = some (.bool true) := by have := hatb r 0 _ _ hsb rfl; simpa using this
                  have y0 : wr.cell? ⟨bu, r * 3, none⟩ = some (.string s.p) := hatu r 0 _ _ hsu rfl
                  have y1 : wr.cell? ⟨bu, r * 3 + 1, none⟩ = some (.string (bs s.a)) := hatu r 1 _ _ hsu rfl
                  have y2 : wr.cell? ⟨bu, r * 3 + 2, none⟩ = some (.int .i64 s.n) := hatu r 2 _ _ hsu rfl
                  have hr2 : IntKind.i64.wrap ((n : Int) + (q : Int)) = (r : Int) := by simp only [IntKind.wrap_i64]; omega
                  have hr4 : r < n + m + 3 := by omega
                  have hr5 : (r : Int) < (n : Int) + (m : Int) + 3 := by omega
                  have hr6 : (0 : Int) ≤ (r : Int) := by omega
                  have hs1 := World.block_lt_of_cell? _ _ z0
                  have hs2 := World.block_lt_of_cell? _ _ y0
                  have HGR := Lib.hid hgr
                  obtain ⟨x0, x1, x2⟩ := sv_new wr 26 _ rfl s
                  simp only [Nat.zero_add] at x1 x2
                  generalize bs s.a = S1 at *
                  clear hr hgq hsb hsu hatb hatu hc hcc hgr hg7
                  go_wp2
                  go_region_held3 (fun w' => w'.cell? ⟨wr.heap.size, 0, none⟩ = some (.string s.p) ∧ w'.cell? ⟨wr.heap.size, 1, none⟩ = some (.string S1) ∧ w'.cell? ⟨wr.heap.size, 2, none⟩ = some (.int .i64 s.n) ∧ w'.cell? ⟨bb, r, none⟩ = some (.bool true) ∧ w'.cell? ⟨bu, r * 3, none⟩ = some (.string s.p) ∧ w'.cell? ⟨bu, r * 3 + 1, none⟩ = some (.string S1) ∧ w'.cell? ⟨bu, r * 3 + 2, none⟩ = some (.int .i64 s.n)) (go_keep) (fail)
                  all_goals go_wp2
                  all_goals go_roundw
                  case rel => exact ⟨q + 1, by go_num, by omega, (HGR.out.alloc _).drew⟩
                  case measure => simp [intOf]; omega
                · obtain rfl : m = q := by omega
                  have hg7 := HG8.out.trans hgr
                  obtain ⟨bb, cb', hvb, _, _, _, _, hatb⟩ := (OwnR.gr HB.out hg7).at' (by rw [List.length_map, HGL.out]; omega)
                  simp only [Value.slice.injEq] at hvb
                  obtain ⟨rfl, hx1, rfl⟩ := hvb
                  clear hx1
                  obtain ⟨bu, cu', hvu, _, _, _, _, hatu⟩ := (OwnR.gr HO.out hg7).at' (by rw [List.length_map, HGL.out]; omega)
                  simp only [Value.slice.injEq] at hvu
                  obtain ⟨rfl, hx1, rfl⟩ := hvu
                  clear hx1
                  have hgm := (HGT m (Nat.le_refl _)).out
                  have hAm : (addL [] l)[m]? = none := List.getElem?_eq_none (by rw [HM.out]; exact Nat.le_refl _)
                  rw [HN.out, hAm] at hgm
                  have hgl := HLS.out
                  have HAT := Lib.hid hatb
                  have HATU := Lib.hid hatu
                  have hgl2 := HGL.out
                  by_cases hm0 : m = 0
                  · subst hm0
                    have hA0 : (addL [] l)[0]? = none := List.getElem?_eq_none (by rw [HM.out]; exact Nat.le_refl _)
                    rw [hA0] at hgl
                    have hsb : (G.map isCs)[n + 0 + 2]? = some (isCs none) := by rw [List.getElem?_map, hgl]; rfl
                    have hsm : (G.map isCs)[n + 0]? = some (isCs none) := by rw [List.getElem?_map, hgm]; rfl
                    obtain ⟨r, hr⟩ : ∃ r, n + 0 + 2 = r := ⟨_, rfl⟩
                    rw [hr] at hsb
                    have z0 : wr.cell? ⟨bb, r, none⟩ = some (.bool false) := by have := HAT.out r 0 _ _ hsb rfl; simpa [isCs] using this
                    have z1 : wr.cell? ⟨bb, n, none⟩ = some (.bool false) := by have := HAT.out (n + 0) 0 _ _ hsm rfl; simpa [isCs] using this
                    have HGR := Lib.hid hgr
                    have hr2 : IntKind.i64.wrap ((n : Int)) = (n : Int) := by simp only [IntKind.wrap_i64]; omega
                    have hr4 : r < n + 3 := by omega
                    have hr5 : (r : Int) < (n : Int) + 3 := by omega
                    have hr6 : (0 : Int) ≤ (r : Int) := by omega
                    have hn5 : (n : Int) < (n : Int) + 3 := by omega
                    have HR := Lib.hid (show (n : Int) + 3 - 1 = (r : Int) by omega)
                    clear hgr hg7 hsb hsm hA0 hgl hgm hAm hatb hatu hr
                    go_wp2
                    rw [HR.out]
                    rename_i q3 a4 q2 a3 q1 a2 rt q0 k1 a1 k0 a0
                    clear a4 a3 a2 a1 rt HF HRD HSR HGD HEQ HSE HGT HLS HGL HRJ HRE HTL hTl HRL hgl2 HA HB HO HRN HRN2 HR6 HAT HATU HZ1 HZ2 HZ3 hcu hcb hca hq hq2 e e2 e3 e4 hj ht hm100 hpc1 hcm hlc hcm2 hco2 hcu2 hcb2
                    refine wp_region_held_drew (S := fun w' => w'.cell? ⟨bb, r, none⟩ = some (.bool false) ∧ w'.cell? ⟨bb, n, none⟩ = some (.bool false)) (by kernel_rfl) (by first | go_keep | (with_reducible exact ⟨hG9.cell z0, hG9.cell z1⟩)) (fun hHeld => ?_)
                    refine wpAnyH_take (i := 0) (oi := { dst := some 122, op := Op.move (Operand.tmp 11), type := 33, pos := "configs.go:151", after := #[], guard := none }) (v := ?_) rfl (by kernel_rfl) (by kernel_rfl) (by kernel_rfl) (fun _ _ _ h => h) (Or.inl ⟨by rfl, ?_⟩) (by assumption) ?_
                    rotate_left
                    · (intro w hSw; (try dsimp only at hSw); go_simp; try with_reducible rfl)
                    try simp only [Act.put, List.setIfInBounds_toArray, List.set_cons_zero, List.set_cons_succ]
                    refine wpAnyH_take (i := 1) (oi := { dst := some 123, op := Op.move (Operand.tmp 9), type := 3, pos := "configs.go:151", after := #[], guard := none }) (v := ?_) rfl (by kernel_rfl) (by kernel_rfl) (by kernel_rfl) (fun _ _ _ h => h) (Or.inl ⟨by rfl, ?_⟩) (by assumption) ?_
                    rotate_left
                    · (intro w hSw; (try dsimp only at hSw); go_simp; try with_reducible rfl)
                    try simp only [Act.put, List.setIfInBounds_toArray, List.set_cons_zero, List.set_cons_succ]
                    refine wpAnyH_take (i := 2) (oi := { dst := some 124, op := Op.move (Operand.tmp 3), type := 22, pos := "configs.go:151", after := #[], guard := none }) (v := ?_) rfl (by kernel_rfl) (by kernel_rfl) (by kernel_rfl) (fun _ _ _ h => h) (Or.inl ⟨by rfl, ?_⟩) (by assumption) ?_
                    rotate_left
                    · (intro w hSw; (try dsimp only at hSw); go_simp; try with_reducible rfl)
                    try simp only [Act.put, List.setIfInBounds_toArray, List.set_cons_zero, List.set_cons_succ]
                    refine wpAnyH_take (i := 3) (oi := { dst := some 125, op := Op.call { callee := Callee.builtin Builtin.len, args := #[Operand.tmp 124], argTypes := #[22] }, type := 3, pos := "configs.go:151", after := #[{ on := 2, ground := Ground.data }], guard := none }) (v := ?_) rfl (by kernel_rfl) (by kernel_rfl) (by kernel_rfl) (fun _ _ _ h => h) (Or.inl ⟨by rfl, ?_⟩) (by assumption) ?_
                    rotate_left
                    · (intro w hSw; (try dsimp only at hSw); go_simp; try with_reducible rfl)
                    try simp only [Act.put, List.setIfInBounds_toArray, List.set_cons_zero, List.set_cons_succ]
                    refine wpAnyH_take (i := 4) (oi := { dst := some 126, op := Op.binOp BinOp.add 3 (Operand.tmp 123) (Operand.tmp 125) 3, type := 3, pos := "configs.go:151", after := #[{ on := 1, ground := Ground.data }, { on := 3, ground := Ground.data }], guard := none }) (v := ?_) rfl (by kernel_rfl) (by kernel_rfl) (by kernel_rfl) (fun _ _ _ h => h) (Or.inl ⟨by rfl, ?_⟩) (by assumption) ?_
                    rotate_left
                    · (intro w hSw; (try dsimp only at hSw); go_simp; try with_reducible rfl)
                    try simp only [Act.put, List.setIfInBounds_toArray, List.set_cons_zero, List.set_cons_succ]
                    refine wpAnyH_take (i := 5) (oi := { dst := some 127, op := Op.indexAddr 33 (Operand.tmp 122) (Operand.tmp 126), type := 0, pos := "configs.go:151", after := #[{ on := 0, ground := Ground.data }, { on := 4, ground := Ground.data }], guard := none }) (v := ?_) rfl (by kernel_rfl) (by kernel_rfl) (by kernel_rfl) (fun _ _ _ h => h) (Or.inl ⟨by rfl, ?_⟩) (by assumption) ?_
                    rotate_left
                    · (intro w hSw; (try dsimp only at hSw); go_simp; try with_reducible rfl)
                    try simp only [Act.put, List.setIfInBounds_toArray, List.set_cons_zero, List.set_cons_succ]
                    refine wpAnyH_take (i := 6) (oi := { dst := some 128, op := Op.load 4 (Operand.tmp 127), type := 4, pos := "configs.go:151", after := #[{ on := 5, ground := Ground.data }], guard := none }) (v := ?_) rfl (by kernel_rfl) (by kernel_rfl) (by kernel_rfl) (fun _ _ _ h => h) (Or.inl ⟨by rfl, ?_⟩) (by assumption) ?_
                    rotate_left
                    · (intro w hSw; (try dsimp only at hSw); go_simp; try with_reducible rfl)
                    try simp only [Act.put, List.setIfInBounds_toArray, List.set_cons_zero, List.set_cons_succ]
                    refine wpAnyH_take (i := 7) (oi := { dst := some 129, op := Op.unOp UnOp.not 4 (Operand.tmp 128), type := 4, pos := "configs.go:151", after := #[{ on := 6, ground := Ground.data }], guard := none }) (v := ?_) rfl (by kernel_rfl) (by kernel_rfl) (by kernel_rfl) (fun _ _ _ h => h) (Or.inl ⟨by rfl, ?_⟩) (by assumption) ?_
                    rotate_left
                    · (intro w hSw; (try dsimp only at hSw); go_simp; try with_reducible rfl)
                    try simp only [Act.put, List.setIfInBounds_toArray, List.set_cons_zero, List.set_cons_succ]
                    refine wpAnyH_take (i := 8) (oi := { dst := some 130, op := Op.move (Operand.tmp 129), type := 4, pos := "configs.go:151", after := #[{ on := 7, ground := Ground.data }], guard := none }) (v := ?_) rfl (by kernel_rfl) (by kernel_rfl) (by kernel_rfl) (fun _ _ _ h => h) (Or.inl ⟨by rfl, ?_⟩) (by assumption) ?_
                    rotate_left
                    · (intro w hSw; (try dsimp only at hSw); go_simp; try with_reducible rfl)
                    try simp only [Act.put, List.setIfInBounds_toArray, List.set_cons_zero, List.set_cons_succ]
                    refine wpAnyH_take (i := 9) (oi := { dst := some 131, op := Op.move (Operand.tmp 11), type := 33, pos := "configs.go:151", after := #[{ on := 8, ground := Ground.guard }], guard := some (8, true) }) (v := ?_) rfl (by kernel_rfl) (by kernel_rfl) (by kernel_rfl) (fun _ _ _ h => h) (Or.inl ⟨by rfl, ?_⟩) (by assumption) ?_
                    rotate_left
                    · (intro w hSw; (try dsimp only at hSw); go_simp; try with_reducible rfl)
                    try simp only [Act.put, List.setIfInBounds_toArray, List.set_cons_zero, List.set_cons_succ]
                    refine wpAnyH_take (i := 10) (oi := { dst := some 132, op := Op.move (Operand.tmp 15), type := 3, pos := "configs.go:151", after := #[{ on := 8, ground := Ground.guard }], guard := some (8, true) }) (v := ?_) rfl (by kernel_rfl) (by kernel_rfl) (by kernel_rfl) (fun _ _ _ h => h) (Or.inl ⟨by rfl, ?_⟩) (by assumption) ?_
                    rotate_left
                    · (intro w hSw; (try dsimp only at hSw); go_simp; try with_reducible rfl)
                    try simp only [Act.put, List.setIfInBounds_toArray, List.set_cons_zero, List.set_cons_succ]
                    refine wpAnyH_take (i := 11) (oi := { dst := some 133, op := Op.indexAddr 33 (Operand.tmp 131) (Operand.tmp 132), type := 0, pos := "configs.go:151", after := #[{ on := 9, ground := Ground.data }, { on := 10, ground := Ground.data }, { on := 8, ground := Ground.guard }], guard := some (8, true) }) (v := ?_) rfl (by kernel_rfl) (by kernel_rfl) (by kernel_rfl) (fun _ _ _ h => h) (Or.inl ⟨by rfl, ?_⟩) (by assumption) ?_
                    rotate_left
                    · (intro w hSw; (try dsimp only at hSw); go_simp; try with_reducible rfl)
                    try simp only [Act.put, List.setIfInBounds_toArray, List.set_cons_zero, List.set_cons_succ]
                    refine wpAnyH_take (i := 12) (oi := { dst := some 134, op := Op.load 4 (Operand.tmp 133), type := 4, pos := "configs.go:151", after := #[{ on := 11, ground := Ground.data }, { on := 8, ground := Ground.guard }], guard := some (8, true) }) (v := ?_) rfl (by kernel_rfl) (by kernel_rfl) (by kernel_rfl) (fun _ _ _ h => h) (Or.inl ⟨by rfl, ?_⟩) (by assumption) ?_
                    rotate_left
                    · (intro w hSw; (try dsimp only at hSw); go_simp; try with_reducible rfl)
                    try simp only [Act.put, List.setIfInBounds_toArray, List.set_cons_zero, List.set_cons_succ]
                    refine wpAnyH_take (i := 13) (oi := { dst := some 135, op := Op.move (Operand.tmp 3), type := 22, pos := "configs.go:151", after := #[{ on := 8, ground := Ground.guard }], guard := some (8, true) }) (v := ?_) rfl (by kernel_rfl) (by kernel_rfl) (by kernel_rfl) (fun _ _ _ h => h) (Or.inl ⟨by rfl, ?_⟩) (by assumption) ?_
                    rotate_left
                    · (intro w hSw; (try dsimp only at hSw); go_simp; try with_reducible rfl)
                    try simp only [Act.put, List.setIfInBounds_toArray, List.set_cons_zero, List.set_cons_succ]
                    refine wpAnyH_take (i := 14) (oi := { dst := some 136, op := Op.call { callee := Callee.builtin Builtin.len, args := #[Operand.tmp 135], argTypes := #[22] }, type := 3, pos := "configs.go:151", after := #[{ on := 13, ground := Ground.data }, { on := 8, ground := Ground.guard }], guard := some (8, true) }) (v := ?_) rfl (by kernel_rfl) (by kernel_rfl) (by kernel_rfl) (fun _ _ _ h => h) (Or.inl ⟨by rfl, ?_⟩) (by assumption) ?_
                    rotate_left
                    · (intro w hSw; (try dsimp only at hSw); go_simp; try with_reducible rfl)
                    try simp only [Act.put, List.setIfInBounds_toArray, List.set_cons_zero, List.set_cons_succ]
                    refine wpAnyH_take (i := 15) (oi := { dst := some 137, op := Op.binOp BinOp.gtr 3 (Operand.tmp 136) (Operand.const (Value.int IntKind.i64 0)) 3, type := 4, pos := "configs.go:151", after := #[{ on := 14, ground := Ground.data }, { on := 8, ground := Ground.guard }], guard := some (8, true) }) (v := ?_) rfl (by kernel_rfl) (by kernel_rfl) (by kernel_rfl) (fun _ _ _ h => h) (Or.inl ⟨by rfl, ?_⟩) (by assumption) ?_
                    rotate_left
                    · (intro w hSw; (try dsimp only at hSw); go_simp; try with_reducible rfl)
                    try simp only [Act.put, List.setIfInBounds_toArray, List.set_cons_zero, List.set_cons_succ]
                    refine wpAnyH_take (i := 16) (oi := { dst := some 138, op := Op.binOp BinOp.eql 4 (Operand.tmp 134) (Operand.tmp 137) 4, type := 4, pos := "configs.go:151", after := #[{ on := 12, ground := Ground.data }, { on := 15, ground := Ground.data }, { on := 8, ground := Ground.guard }], guard := some (8, true) }) (v := ?_) rfl (by kernel_rfl) (by kernel_rfl) (by kernel_rfl) (fun _ _ _ h => h) (Or.inl ⟨by rfl, ?_⟩) (by assumption) ?_
                    rotate_left
                    · (intro w hSw; (try dsimp only at hSw); go_simp; try with_reducible rfl)
                    try simp only [Act.put, List.setIfInBounds_toArray, List.set_cons_zero, List.set_cons_succ]
                    refine wpAnyH_take (i := 17) (oi := { dst := some 139, op := Op.pick (Operand.tmp 130) (Operand.tmp 138) (Operand.const (Value.bool false)), type := 4, pos := "configs.go:151", after := #[{ on := 8, ground := Ground.data }, { on := 16, ground := Ground.data }], guard := none }) (v := ?_) rfl (by kernel_rfl) (by kernel_rfl) (by kernel_rfl) (fun _ _ _ h => h) (Or.inl ⟨by rfl, ?_⟩) (by assumption) ?_
                    rotate_left
                    · (intro w hSw; (try dsimp only at hSw); go_simp; try with_reducible rfl)
                    try simp only [Act.put, List.setIfInBounds_toArray, List.set_cons_zero, List.set_cons_succ]
                    refine wpAnyH_take (i := 18) (oi := { dst := some 140, op := Op.move (Operand.tmp 139), type := 4, pos := "configs.go:151", after := #[{ on := 17, ground := Ground.data }, { on := 8, ground := Ground.chain }], guard := none }) (v := ?_) rfl (by kernel_rfl) (by kernel_rfl) (by kernel_rfl) (fun _ _ _ h => h) (Or.inl ⟨by rfl, ?_⟩) (by assumption) ?_
                    rotate_left
                    · (intro w hSw; (try dsimp only at hSw); go_simp; try with_reducible rfl)
                    try simp only [Act.put, List.setIfInBounds_toArray, List.set_cons_zero, List.set_cons_succ]
                    refine wpAnyH_take (i := 19) (oi := { dst := some 141, op := Op.move (Operand.tmp 11), type := 33, pos := "configs.go:151", after := #[{ on := 18, ground := Ground.guard }], guard := some (18, true) }) (v := ?_) rfl (by kernel_rfl) (by kernel_rfl) (by kernel_rfl) (fun _ _ _ h => h) (Or.inl ⟨by rfl, ?_⟩) (by assumption) ?_
                    rotate_left
                    · (intro w hSw; (try dsimp only at hSw); go_simp; try with_reducible rfl)
                    try simp only [Act.put, List.setIfInBounds_toArray, List.set_cons_zero, List.set_cons_succ]
                    refine wpAnyH_take (i := 20) (oi := { dst := some 142, op := Op.move (Operand.tmp 15), type := 3, pos := "configs.go:151", after := #[{ on := 18, ground := Ground.guard }], guard := some (18, true) }) (v := ?_) rfl (by kernel_rfl) (by kernel_rfl) (by kernel_rfl) (fun _ _ _ h => h) (Or.inl ⟨by rfl, ?_⟩) (by assumption) ?_
                    rotate_left
                    · (intro w hSw; (try dsimp only at hSw); go_simp; try with_reducible rfl)
                    try simp only [Act.put, List.setIfInBounds_toArray, List.set_cons_zero, List.set_cons_succ]
                    refine wpAnyH_take (i := 21) (oi := { dst := some 143, op := Op.indexAddr 33 (Operand.tmp 141) (Operand.tmp 142), type := 0, pos := "configs.go:151", after := #[{ on := 19, ground := Ground.data }, { on := 20, ground := Ground.data }, { on := 18, ground := Ground.guard }], guard := some (18, true) }) (v := ?_) rfl (by kernel_rfl) (by kernel_rfl) (by kernel_rfl) (fun _ _ _ h => h) (Or.inl ⟨by rfl, ?_⟩) (by assumption) ?_
                    rotate_left
                    · (intro w hSw; (try dsimp only at hSw); go_simp; try with_reducible rfl)
                    try simp only [Act.put, List.setIfInBounds_toArray, List.set_cons_zero, List.set_cons_succ]
                    refine wpAnyH_take (i := 22) (oi := { dst := some 144, op := Op.load 4 (Operand.tmp 143), type := 4, pos := "configs.go:151", after := #[{ on := 21, ground := Ground.data }, { on := 18, ground := Ground.guard }], guard := some (18, true) }) (v := ?_) rfl (by kernel_rfl) (by kernel_rfl) (by kernel_rfl) (fun _ _ _ h => h) (Or.inl ⟨by rfl, ?_⟩) (by assumption) ?_
                    rotate_left
                    · (intro w hSw; (try dsimp only at hSw); go_simp; try with_reducible rfl)
                    try simp only [Act.put, List.setIfInBounds_toArray, List.set_cons_zero, List.set_cons_succ]
                    refine wpAnyH_take (i := 23) (oi := { dst := some 145, op := Op.unOp UnOp.not 4 (Operand.tmp 144), type := 4, pos := "configs.go:151", after := #[{ on := 22, ground := Ground.data }, { on := 18, ground := Ground.guard }], guard := some (18, true) }) (v := ?_) rfl (by kernel_rfl) (by kernel_rfl) (by kernel_rfl) (fun _ _ _ h => h) (Or.inl ⟨by rfl, ?_⟩) (by assumption) ?_
                    rotate_left
                    · (intro w hSw; (try dsimp only at hSw); go_simp; try with_reducible rfl)
                    try simp only [Act.put, List.setIfInBounds_toArray, List.set_cons_zero, List.set_cons_succ]
                    refine wpAnyH_take (i := 24) (oi := { dst := some 146, op := Op.move (Operand.tmp 145), type := 4, pos := "configs.go:151", after := #[{ on := 23, ground := Ground.data }, { on := 18, ground := Ground.chain }, { on := 18, ground := Ground.guard }], guard := some (18, true) }) (v := ?_) rfl (by kernel_rfl) (by kernel_rfl) (by kernel_rfl) (fun _ _ _ h => h) (Or.inl ⟨by rfl, ?_⟩) (by assumption) ?_
                    rotate_left
                    · (intro w hSw; (try dsimp only at hSw); go_simp; try with_reducible rfl)
                    try simp only [Act.put, List.setIfInBounds_toArray, List.set_cons_zero, List.set_cons_succ]
                    refine wpAnyH_take (i := 25) (oi := { dst := some 147, op := Op.move (Operand.tmp 10), type := 22, pos := "configs.go:151", after := #[{ on := 24, ground := Ground.guard }], guard := some (24, false) }) (v := undef) rfl (by kernel_rfl) (by kernel_rfl) (by kernel_rfl) (fun _ _ _ h => h) (Or.inr ⟨by rfl, rfl⟩) (by assumption) ?_
                    try simp only [Act.put, List.setIfInBounds_toArray, List.set_cons_zero, List.set_cons_succ]
                    refine wpAnyH_take (i := 26) (oi := { dst := some 148, op := Op.move (Operand.tmp 15), type := 3, pos := "configs.go:151", after := #[{ on := 24, ground := Ground.guard }], guard := some (24, false) }) (v := undef) rfl (by kernel_rfl) (by kernel_rfl) (by kernel_rfl) (fun _ _ _ h => h) (Or.inr ⟨by rfl, rfl⟩) (by assumption) ?_
                    try simp only [Act.put, List.setIfInBounds_toArray, List.set_cons_zero, List.set_cons_succ]
                    refine wpAnyH_take (i := 27) (oi := { dst := some 149, op := Op.indexAddr 22 (Operand.tmp 147) (Operand.tmp 148), type := 0, pos := "configs.go:151", after := #[{ on := 25, ground := Ground.data }, { on := 26, ground := Ground.data }, { on := 24, ground := Ground.guard }], guard := some (24, false) }) (v := undef) rfl (by kernel_rfl) (by kernel_rfl) (by kernel_rfl) (fun _ _ _ h => h) (Or.inr ⟨by rfl, rfl⟩) (by assumption) ?_
                    try simp only [Act.put, List.setIfInBounds_toArray, List.set_cons_zero, List.set_cons_succ]
                    refine wpAnyH_take (i := 28) (oi := { dst := some 150, op := Op.load 26 (Operand.tmp 149), type := 26, pos := "configs.go:151", after := #[{ on := 27, ground := Ground.data }, { on := 24, ground := Ground.guard }], guard := some (24, false) }) (v := undef) rfl (by kernel_rfl) (by kernel_rfl) (by kernel_rfl) (fun _ _ _ h => h) (Or.inr ⟨by rfl, rfl⟩) (by assumption) ?_
                    try simp only [Act.put, List.setIfInBounds_toArray, List.set_cons_zero, List.set_cons_succ]
                    refine wpAnyH_take (i := 29) (oi := { dst := some 151, op := Op.move (Operand.tmp 3), type := 22, pos := "configs.go:151", after := #[{ on := 24, ground := Ground.guard }], guard := some (24, false) }) (v := undef) rfl (by kernel_rfl) (by kernel_rfl) (by kernel_rfl) (fun _ _ _ h => h) (Or.inr ⟨by rfl, rfl⟩) (by assumption) ?_
                    try simp only [Act.put, List.setIfInBounds_toArray, List.set_cons_zero, List.set_cons_succ]
                    refine wpAnyH_take (i := 30) (oi := { dst := some 152, op := Op.indexAddr 22 (Operand.tmp 151) (Operand.const (Value.int IntKind.i64 0)), type := 0, pos := "configs.go:151", after := #[{ on := 29, ground := Ground.data }, { on := 24, ground := Ground.guard }], guard := some (24, false) }) (v := undef) rfl (by kernel_rfl) (by kernel_rfl) (by kernel_rfl) (fun _ _ _ h => h) (Or.inr ⟨by rfl, rfl⟩) (by assumption) ?_
                    try simp only [Act.put, List.setIfInBounds_toArray, List.set_cons_zero, List.set_cons_succ]
                    refine wpAnyH_take (i := 31) (oi := { dst := some 153, op := Op.load 26 (Operand.tmp 152), type := 26, pos := "configs.go:151", after := #[{ on := 30, ground := Ground.data }, { on := 24, ground := Ground.guard }], guard := some (24, false) }) (v := undef) rfl (by kernel_rfl) (by kernel_rfl) (by kernel_rfl) (fun _ _ _ h => h) (Or.inr ⟨by rfl, rfl⟩) (by assumption) ?_
                    try simp only [Act.put, List.setIfInBounds_toArray, List.set_cons_zero, List.set_cons_succ]
                    refine wpAnyH_take (i := 32) (oi := { dst := some 154, op := Op.binOp BinOp.eql 26 (Operand.tmp 150) (Operand.tmp 153) 26, type := 4, pos := "configs.go:151", after := #[{ on := 28, ground := Ground.data }, { on := 31, ground := Ground.data }, { on := 24, ground := Ground.guard }], guard := some (24, false) }) (v := undef) rfl (by kernel_rfl) (by kernel_rfl) (by kernel_rfl) (fun _ _ _ h => h) (Or.inr ⟨by rfl, rfl⟩) (by assumption) ?_
                    try simp only [Act.put, List.setIfInBounds_toArray, List.set_cons_zero, List.set_cons_succ]
                    refine wpAnyH_take (i := 33) (oi := { dst := some 155, op := Op.pick (Operand.tmp 146) (Operand.const (Value.bool true)) (Operand.tmp 154), type := 4, pos := "configs.go:151", after := #[{ on := 24, ground := Ground.data }, { on := 32, ground := Ground.data }, { on := 18, ground := Ground.guard }], guard := some (18, true) }) (v := ?_) rfl (by kernel_rfl) (by kernel_rfl) (by kernel_rfl) (fun _ _ _ h => h) (Or.inl ⟨by rfl, ?_⟩) (by assumption) ?_
                    rotate_left
                    · (intro w hSw; (try dsimp only at hSw); go_simp; try with_reducible rfl)
                    try simp only [Act.put, List.setIfInBounds_toArray, List.set_cons_zero, List.set_cons_succ]
                    refine wpAnyH_take (i := 34) (oi := { dst := some 156, op := Op.pick (Operand.tmp 140) (Operand.tmp 155) (Operand.const (Value.bool false)), type := 4, pos := "configs.go:151", after := #[{ on := 18, ground := Ground.data }, { on := 33, ground := Ground.data }], guard := none }) (v := ?_) rfl (by kernel_rfl) (by kernel_rfl) (by kernel_rfl) (fun _ _ _ h => h) (Or.inl ⟨by rfl, ?_⟩) (by assumption) ?_
                    rotate_left
                    · (intro w hSw; (try dsimp only at hSw); go_simp; try with_reducible rfl)
                    try simp only [Act.put, List.setIfInBounds_toArray, List.set_cons_zero, List.set_cons_succ]
                    refine wpAnyH_take (i := 35) (oi := { dst := some 157, op := Op.move (Operand.tmp 156), type := 4, pos := "configs.go:151", after := #[{ on := 34, ground := Ground.data }, { on := 24, ground := Ground.chain }], guard := none }) (v := ?_) rfl (by kernel_rfl) (by kernel_rfl) (by kernel_rfl) (fun _ _ _ h => h) (Or.inl ⟨by rfl, ?_⟩) (by assumption) ?_
                    rotate_left
                    · (intro w hSw; (try dsimp only at hSw); go_simp; try with_reducible rfl)
                    try simp only [Act.put, List.setIfInBounds_toArray, List.set_cons_zero, List.set_cons_succ]
                    refine wpAnyH_ready (rs := [36]) (by kernel_rfl) (by simp) ?_
                    refine AllReadyH.cons (o := { dst := some 158, op := Op.call { callee := Callee.value (Operand.func 10), args := #[], argTypes := #[] }, type := 4, pos := "configs.go:151", after := #[{ on := 35, ground := Ground.chain }, { on := 35, ground := Ground.guard }], guard := some (35, true) }) rfl (fun K hK => ?_) ?_
                    ·
                      go_simp
                      go_at_call 10; go_must (refine (HAW _).out.mono ?_); rintro e w9 ⟨rfl, hg9⟩; have hG9 : Gr wr w9 := Gr.trans (Gr.refl wr).drew hg9
                      go_wp2_with fail
                      refine hK.out _ _ (by first | go_keep | (with_reducible exact ⟨hG9.cell z0, hG9.cell z1⟩)) (fun hHeld => ?_)
                      clear hK K
                      try simp only [Act.put, List.setIfInBounds_toArray, List.set_cons_zero, List.set_cons_succ]
                      refine wpAnyH_take (i := 37) (oi := { dst := some 159, op := Op.pick (Operand.tmp 157) (Operand.tmp 158) (Operand.const (Value.bool false)), type := 4, pos := "configs.go:151", after := #[{ on := 35, ground := Ground.data }, { on := 36, ground := Ground.data }], guard := none }) (v := ?_) rfl (by kernel_rfl) (by kernel_rfl) (by kernel_rfl) (fun _ _ _ h => h) (Or.inl ⟨by rfl, ?_⟩) (by assumption) ?_
                      rotate_left
                      · (intro w hSw; (try dsimp only at hSw); go_simp; try with_reducible rfl)
                      try simp only [Act.put, List.setIfInBounds_toArray, List.set_cons_zero, List.set_cons_succ]
                      refine wpAnyH_take (i := 38) (oi := { dst := some 2, op := Op.assign (Operand.tmp 159), type := 4, pos := "configs.go:151", after := #[{ on := 37, ground := Ground.data }, { on := 36, ground := Ground.chain }, { on := 0, ground := Ground.phase }, { on := 1, ground := Ground.phase }, { on := 2, ground := Ground.phase }, { on := 3, ground := Ground.phase }, { on := 4, ground := Ground.phase }, { on := 5, ground := Ground.phase }, { on := 6, ground := Ground.phase }, { on := 7, ground := Ground.phase }, { on := 8, ground := Ground.phase }, { on := 9, ground := Ground.phase }, { on := 10, ground := Ground.phase }, { on := 11, ground := Ground.phase }, { on := 12, ground := Ground.phase }, { on := 13, ground := Ground.phase }, { on := 14, ground := Ground.phase }, { on := 15, ground := Ground.phase }, { on := 16, ground := Ground.phase }, { on := 17, ground := Ground.phase }, { on := 18, ground := Ground.phase }, { on := 19, ground := Ground.phase }, { on := 20, ground := Ground.phase }, { on := 21, ground := Ground.phase }, { on := 22, ground := Ground.phase }, { on := 23, ground := Ground.phase }, { on := 24, ground := Ground.phase }, { on := 25, ground := Ground.phase }, { on := 26, ground := Ground.phase }, { on := 27, ground := Ground.phase }, { on := 28, ground := Ground.phase }, { on := 29, ground := Ground.phase }, { on := 30, ground := Ground.phase }, { on := 31, ground := Ground.phase }, { on := 32, ground := Ground.phase }, { on := 33, ground := Ground.phase }, { on := 34, ground := Ground.phase }, { on := 35, ground := Ground.phase }, { on := 36, ground := Ground.phase }, { on := 37, ground := Ground.phase }], guard := none }) (v := ?_) rfl (by kernel_rfl) (by kernel_rfl) (by kernel_rfl) (fun _ _ _ h => h) (Or.inl ⟨by rfl, ?_⟩) (by assumption) ?_
                      rotate_left
                      · (intro w hSw; (try dsimp only at hSw); go_simp; try with_reducible rfl)
                      try simp only [Act.put, List.setIfInBounds_toArray, List.set_cons_zero, List.set_cons_succ]
                      refine wpAnyH_done (by kernel_rfl) ?_ _
                      go_wp2
                      go_ret
                      have hb7 := HW7.out.below
                      rw [← hH] at hb7
                      exact ⟨rfl, ((Gr.trans hb7 HG8.out).trans HGR.out).trans hG9⟩
                    exact AllReadyH.nil
                  · have hA0 : (addL [] l)[0]? = some ((addL [] l)[0]'(by rw [HM.out]; omega)) := List.getElem?_eq_getElem _
                    rw [hA0] at hgl
                    obtain ⟨_, _, hpe, _, _, hcc⟩ := (OwnR.gr HW7.out.once hg7).rdSv
                    obtain ⟨b, o, hpb, hc⟩ := hcc (by rw [HM.out]; omega)
                    simp only [Value.slice.injEq] at hpe
                    obtain ⟨rfl, hx1, hx2⟩ := hpe
                    clear hx1 hx2
                    obtain rfl := hpb
                    obtain ⟨k0, k1, k2⟩ := hc 0 (by rw [HM.out]; omega)
                    generalize (addL [] l)[0]'(by rw [HM.out]; omega) = s at *
                    simp only [Nat.zero_mul, Nat.add_zero] at k0 k1 k2
                    have hsb : (G.map isCs)[n + m + 2]? = some (isCs (some s)) := by rw [List.getElem?_map, hgl]; rfl
                    have hsu : (G.map outCs)[n + m + 2]? = some (outCs (some s)) := by rw [List.getElem?_map, hgl]; rfl
                    have hsm : (G.map isCs)[n + m]? = some (isCs none) := by rw [List.getElem?_map, hgm]; rfl
                    obtain ⟨r, hr⟩ : ∃ r, n + m + 2 = r := ⟨_, rfl⟩
                    obtain ⟨t, ht⟩ : ∃ t, n + m = t := ⟨_, rfl⟩
                    rw [hr] at hsb hsu
                    rw [ht] at hsm
                    have z0 : wr.cell? ⟨bb, r, none⟩ = some (.bool true) := by have := HAT.out r 0 _ _ hsb rfl; simpa using this
                    have z1 : wr.cell? ⟨bb, t, none⟩ = some (.bool false) := by have := HAT.out t 0 _ _ hsm rfl; simpa [isCs] using this
                    have y0 : wr.cell? ⟨bu, r * 3, none⟩ = some (.string s.p) := HATU.out r 0 _ _ hsu rfl
                    have y1 : wr.cell? ⟨bu, r * 3 + 1, none⟩ = some (.string (bs s.a)) := HATU.out r 1 _ _ hsu rfl
                    have y2 : wr.cell? ⟨bu, r * 3 + 2, none⟩ = some (.int .i64 s.n) := HATU.out r 2 _ _ hsu rfl
                    have HGR := Lib.hid hgr
                    have hr2 : IntKind.i64.wrap ((n : Int) + (m : Int)) = (t : Int) := by simp only [IntKind.wrap_i64]; omega
                    have hr4 : r < n + m + 3 := by omega
                    have hr5 : (r : Int) < (n : Int) + (m : Int) + 3 := by omega
                    have hr6 : (0 : Int) ≤ (r : Int) := by omega
                    have ht4 : t < n + m + 3 := by omega
                    have ht5 : (t : Int) < (n : Int) + (m : Int) + 3 := by omega
                    have ht6 : (0 : Int) ≤ (t : Int) := by omega
                    have HR := Lib.hid (show (n : Int) + (m : Int) + 3 - 1 = (r : Int) by omega)
                    have hm1 : 0 < m := by omega
                    have hm2 : (0 : Int) < (m : Int) := by omega
                    have hm3 : decide ((0 : Int) < (m : Int)) = true := by simpa using hm1
                    have hm4 : (m ≤ 0) = False := by simp; omega
                    have HT := Lib.hid ht
                    generalize bs s.a = S1 at *
                    clear hc hcc hgr hg7 hsb hsu hsm hA0 hgl hgm hAm hatb hatu ht hr
                    go_wp2
                    rw [HR.out]
                    go_region_held3 (fun w' => w'.cell? ⟨b, o, none⟩ = some (.string s.p) ∧ w'.cell? ⟨b, o + 1, none⟩ = some (.string S1) ∧ w'.cell? ⟨b, o + 2, none⟩ = some (.int .i64 s.n) ∧ w'.cell? ⟨bb, r, none⟩ = some (.bool true) ∧ w'.cell? ⟨bb, t, none⟩ = some (.bool false) ∧ w'.cell? ⟨bu, r * 3, none⟩ = some (.string s.p) ∧ w'.cell? ⟨bu, r * 3 + 1, none⟩ = some (.string S1) ∧ w'.cell? ⟨bu, r * 3 + 2, none⟩ = some (.int .i64 s.n)) (first | go_keep | (with_reducible exact ⟨hG9.cell k0, hG9.cell k1, hG9.cell k2, hG9.cell z0, hG9.cell z1, hG9.cell y0, hG9.cell y1, hG9.cell y2⟩)) ((go_at_call 10; go_must (refine (HAW _).out.mono ?_); rintro e w9 ⟨rfl, hg9⟩; have hG9 : Gr wr w9 := Gr.trans (Gr.refl wr).drew hg9))
                    all_goals go_wp2
                    go_ret
                    have hb7 := HW7.out.below
                    rw [← hH] at hb7
                    exact ⟨rfl, ((Gr.trans hb7 HG8.out).trans HGR.out).trans hG9⟩
end Go.Proofs.YtkonfcgdokabaaaDoor
