/- impl.Served: which servers steps give, and the servers behind them. -/
import Derived.Test.YtkonfcgdokabaaaDoorCfGa
namespace Go.Proofs.YtkonfcgdokabaaaDoor
open Go Go.RowKit

theorem resetIndex (C I : Nat) (S : List Srv) (ix : Nat) (sv : Value) (w : World) (hi : InfAt w I C ⟨S, ix⟩ sv) (hC : C ≤ I) :
    Calls Tryd.prog 34 #[.pointer (some ⟨I, 0, none⟩)] w fun e w' => e = .returned (.tuple #[]) ∧ InfAt w' I C ⟨S, 0⟩ sv ∧ Fr C I sv w w' := by
  have i3 := blk_cell hi.blk 3
  have f3 := blk_free hi.blk 3
  simp [infoC] at i3
  have h := inf_set (m := 0) hi hC
  have HR := Lib.hid h
  clear h hi
  go_enter Tryd.func34, Tryd.ntmps34
  go_wp2
  exact bodyPost_end (v := .tuple #[]) (by simp [results, Tryd.results34, go_sem]) rfl ⟨rfl, HR.out.1, HR.out.2⟩

def outCs (o : Option Srv) : List Value := (o.getD noSrv).cs
def isCs (o : Option Srv) : List Value := [.bool o.isSome]
/-- What a round of impl.Served keeps. -/
structure Sv (C I : Nat) (w0 w : World) (i : Inf) (sv ov bv : Value) (gs : List (Option Srv)) : Prop where
  inf : InfAt w I C i sv
  out : OwnR 26 3 C w ov (gs.map outCs)
  is : OwnR 4 1 C w bv (gs.map isCs)
  below : Below C w0 w
  hC : C ≤ I
theorem Sv.hI {C I : Nat} {w0 w : World} {i : Inf} {sv ov bv : Value} {gs : List (Option Srv)} (h : Sv C I w0 w i sv ov bv gs) : C ≤ w.heap.size := by
  have := lt_of_some h.inf.blk
  have := h.hC
  omega
theorem Sv.gr {C I : Nat} {w0 a b : World} {i : Inf} {sv ov bv : Value} {gs : List (Option Srv)} (h : Sv C I w0 a i sv ov bv gs) (g : Gr a b) : Sv C I w0 b i sv ov bv gs :=
  ⟨h.inf.gr g, OwnR.gr h.out g, OwnR.gr h.is g, h.below.trans (Below.mono g h.hI), h.hC⟩
theorem Sv.step {C I : Nat} {w0 a b : World} {i i' : Inf} {sv sv' ov bv : Value} {gs : List (Option Srv)} (h : Sv C I w0 a i sv ov bv gs) (hi : InfAt b I C i' sv') (hf : Fr C I sv a b) : Sv C I w0 b i' sv' ov bv gs :=
  ⟨hi, hf.other h.inf h.out (by decide) (by decide), hf.other h.inf h.is (by decide) (by decide), h.below.trans hf.below, h.hC⟩
theorem InfAt.other {C I D : Nat} {i : Inf} {sv u : Value} {a b : World} (h : InfAt a I C i sv) {U : TypeId} {sz : Nat} {ds : List (List Value)} (hu : OwnR U sz D a u ds) (g : a.grownBy b u.ownBlock)
    (h1 : U ≠ 55) (h2 : 58 ≠ U) : InfAt b I C i sv := by
  refine ⟨?_, h.row.other hu g h2⟩
  rw [g.block I (lt_of_some h.blk) (fun e => ?_)]
  · exact h.blk
  · obtain ⟨_, c2, hc2⟩ := hu.blk I e.symm
    rw [h.blk] at hc2
    simp only [Option.some.injEq, Obj.cells.injEq] at hc2
    exact h1 hc2.2.1.symm
/-- Both rows grow by what a step gave. -/
theorem Sv.grow {C I : Nat} {w0 a b c d : World} {i : Inf} {sv ov bv ov' bv' : Value} {gs : List (Option Srv)} {o : Option Srv} (h : Sv C I w0 a i sv ov bv gs)
    (h1 : OwnR 26 3 C b ov' (gs.map outCs ++ [outCs o])) (g1 : a.grownBy b ov.ownBlock) (gbc : Gr b c)
    (h2 : OwnR 4 1 C d bv' (gs.map isCs ++ [isCs o])) (g2 : c.grownBy d bv.ownBlock) : Sv C I w0 d i sv ov' bv' (gs ++ [o]) := by
  have hb := h.out.below g1 h.hI
  have hC1 : C ≤ b.heap.size := Nat.le_trans h.hI hb.size
  have hib := (h.inf.other h.out g1 (by decide) (by decide)).gr gbc
  have his : OwnR 4 1 C c bv (gs.map isCs) := OwnR.gr (h.is.other h.out g1 (by decide)) gbc
  have ho1 := OwnR.gr h1 gbc
  refine ⟨hib.other his g2 (by decide) (by decide), ?_, ?_, ((h.below.trans hb).trans (Below.mono gbc hC1)).trans (his.below g2 (Nat.le_trans hC1 gbc.size)), h.hC⟩
  · rw [List.map_append]
    exact ho1.other his g2 (by decide)
  · rw [List.map_append]
    exact h2
/-- The slice value v reads as the steps l. -/
def RdStp (w : World) (v : Value) (l : List Stp) : Prop :=
  ∃ p c, v = .slice p l.length c ∧ l.length ≤ c ∧ c ≤ maxLen ∧ (0 < l.length → ∃ b, p = some ⟨b, 0, none⟩ ∧ ∀ i (hi : i < l.length), w.cell? ⟨b, i * 4, none⟩ = some (.int .i64 l[i].k) ∧ SvAt w b (i * 4 + 1) l[i].s)
theorem OwnR.rdStp {B : Nat} {w : World} {v : Value} {l : List Stp} (h : OwnR 32 4 B w v (l.map Stp.cs)) : RdStp w v l := by
  obtain ⟨p, c, rfl, h1, h2, h3⟩ := h.shape
  rw [List.length_map] at h1 ⊢
  refine ⟨p, c, rfl, h1, h2, fun hn => ?_⟩
  obtain ⟨b, cap, hv, _, _, _, _, hat⟩ := h.at' (by rw [List.length_map]; exact hn)
  rw [List.length_map] at hv
  simp only [Value.slice.injEq] at hv
  refine ⟨b, hv.1, fun i hi => ?_⟩
  have hs : (l.map Stp.cs)[i]? = some (Stp.cs l[i]) := by simp [hi]
  exact ⟨hat i 0 _ _ hs rfl, hat i 1 _ _ hs rfl, hat i 2 _ _ hs rfl, hat i 3 _ _ hs rfl⟩
theorem RdStp.gr {a w : World} {v : Value} {l : List Stp} (h : RdStp a v l) (g : Gr a w) : RdStp w v l := by
  obtain ⟨p, c, rfl, h1, h2, h3⟩ := h
  refine ⟨p, c, rfl, h1, h2, fun hn => ?_⟩
  obtain ⟨b, rfl, hc⟩ := h3 hn
  exact ⟨b, rfl, fun i hi => ⟨g.cell (hc i hi).1, (hc i hi).2.gr g⟩⟩
theorem out_one (o : Option Srv) : ∀ c ∈ [outCs o], c.length = 3 ∧ ∀ u ∈ c, u.oneCell' = true := sv_one _
theorem is_one (o : Option Srv) : ∀ c ∈ [isCs o], c.length = 1 ∧ ∀ u ∈ c, u.oneCell' = true := by
  intro c hc
  simp only [List.mem_singleton] at hc
  subst hc
  refine ⟨rfl, fun u hu => ?_⟩
  simp only [isCs, List.mem_cons, List.not_mem_nil, or_false] at hu
  subst hu
  rfl
/-- Every server of the record is one that was added. -/
theorem Inf.all_good (l : List Stp) : ∀ (i : Inf), (∀ s ∈ i.S, s.good = true) → (∀ x ∈ l, x.k = 0 → x.s.good = true) → ∀ s ∈ (i.all l).S, s.good = true := by
  induction l with
  | nil => intro i h _; exact h
  | cons x l ih =>
    intro i h1 h2
    refine ih _ (fun s hs => ?_) (fun y hy => h2 y (List.mem_cons_of_mem _ hy))
    unfold Inf.go at hs
    split at hs
    · rename_i h0
      unfold addS at hs
      simp only at hs
      split at hs
      · exact h1 s hs
      · rcases List.mem_append.1 hs with hs | hs
        · exact h1 s hs
        · simp only [List.mem_singleton] at hs
          subst hs
          exact h2 x (List.mem_cons_self ..) h0
    · split at hs
      · exact h1 s hs
      · split at hs <;> exact h1 s hs
theorem Inf.all_len (l : List Stp) : ∀ (i : Inf), (i.all l).S.length ≤ i.S.length + l.length ∧ (i.all l).ix ≤ i.ix + l.length := by
  induction l with
  | nil => intro i; exact ⟨Nat.le_refl _, Nat.le_refl _⟩
  | cons x l ih =>
    intro i
    have h := ih (i.go x)
    have hg : (i.go x).S.length ≤ i.S.length + 1 ∧ (i.go x).ix ≤ i.ix + 1 := by
      unfold Inf.go
      split
      · unfold addS
        simp only
        split <;> simp
      · split
        · simp
        · split <;> simp
    simp only [Inf.all, List.length_cons]
    omega

def RetServed (w : World) (l : List Stp) (e : Ending) (w' : World) : Prop := ∃ ov bv av, e = .returned (.tuple #[ov, bv, av]) ∧
  OwnR 26 3 w.heap.size w' ov ((Inf.gots ⟨[], 0⟩ l).map outCs) ∧ OwnR 4 1 w.heap.size w' bv ((Inf.gots ⟨[], 0⟩ l).map isCs) ∧
  OwnR 26 3 w.heap.size w' av ((Inf.all ⟨[], 0⟩ l).S.map Srv.cs) ∧ Gr w w'

set_option maxRecDepth 100000 in
set_option maxHeartbeats 4000000 in
theorem served (v : Value) (l : List Stp) (w : World) (h : RdStp w v l) (hl : l.length ≤ 400) (hk : ∀ x ∈ l, (x.k = 0 ∧ x.s.good = true) ∨ x.k = 1 ∨ x.k = 2 ∨ x.k = 3) :
    Calls Tryd.prog 14 #[v] w (RetServed w l) := by
  obtain ⟨p, c, rfl, hlc, hcm, hcells⟩ := h
  obtain ⟨n, hn⟩ : ∃ n, l.length = n := ⟨_, rfl⟩
  obtain ⟨H, hH⟩ : ∃ H, w.heap.size = H := ⟨_, rfl⟩
  have hcm2 : c ≤ 9223372036854775807 := by simp only [maxLen] at hcm; omega
  have HN := Lib.hid hn
  have HC := Lib.hid hcells
  have HK := Lib.hid hk
  have HV0 : Hid (Sv H H w (w.alloc (.cells (infoC (.slice none 0 0) 0) 55)) ⟨[], 0⟩ (.slice none 0 0) (.slice none 0 0) (.slice none 0 0) []) :=
    Lib.hid ⟨⟨heap_new_at w _ hH.symm, OwnR.nil _ _ _ _⟩, OwnR.nil _ _ _ _, OwnR.nil _ _ _ _, Below.mono ((Gr.refl w).alloc _) (by omega), Nat.le_refl _⟩
  rw [hn] at hlc hl ⊢
  unfold RetServed
  rw [hH]
  clear hn hcells hcm hk
  go_enter Tryd.func14, Tryd.ntmps14
  go_wp2
  go_loopw [17, 6, 7] (fun i ov bv wr => ∃ (j : Nat) (sv : Value), i = .int .i64 j ∧ j ≤ n ∧ Sv H H w wr (Inf.all ⟨[], 0⟩ (l.take j)) sv ov bv (Inf.gots ⟨[], 0⟩ (l.take j))) (fun i _ _ _ => ((n : Int) - intOf i).toNat)
  case atStart => exact ⟨0, _, rfl, Nat.zero_le _, HV0.out⟩
  case round =>
    obtain ⟨j, sv, rfl, hj, hsv⟩ := hrel
    by_cases e : j < n
    · have hjl : j < l.length := by rw [HN.out]; exact e
      obtain ⟨b, rfl, hc⟩ := HC.out (by rw [HN.out]; omega)
      have hwr : Gr w wr := by have := hsv.below; rw [← hH] at this; exact this
      obtain ⟨k0, hat⟩ := hc j hjl
      have k0 := hwr.cell k0
      obtain ⟨k1, k2, k3⟩ := hat.gr hwr
      have hta : Inf.all ⟨[], 0⟩ (l.take (j + 1)) = (Inf.all ⟨[], 0⟩ (l.take j)).go l[j] := by rw [List.take_succ_eq_append_getElem hjl, Inf.all_append]; rfl
      have htg : Inf.gots ⟨[], 0⟩ (l.take (j + 1)) = Inf.gots ⟨[], 0⟩ (l.take j) ++ [(Inf.all ⟨[], 0⟩ (l.take j)).got l[j]] := by rw [List.take_succ_eq_append_getElem hjl, Inf.gots_append]; rfl
      have hgl : (Inf.gots ⟨[], 0⟩ (l.take j)).length ≤ 400 := by rw [Inf.gots_len, List.length_take]; omega
      have hgood := Inf.all_good (l.take j) ⟨[], 0⟩ (by simp) (fun x hx h0 => by rcases HK.out x (List.mem_of_mem_take hx) with h | h | h | h <;> first | exact h.2 | omega)
      have hlen := Inf.all_len (l.take j) ⟨[], 0⟩
      simp only [List.length_take, List.length_nil, Nat.zero_add] at hlen
      have hlen : (Inf.all ⟨[], 0⟩ (l.take j)).S.length ≤ 400 ∧ (Inf.all ⟨[], 0⟩ (l.take j)).ix ≤ 400 := by omega
      have hkj := HK.out l[j] (List.getElem_mem hjl)
      generalize Inf.all ⟨[], 0⟩ (l.take j) = I at *
      generalize Inf.gots ⟨[], 0⟩ (l.take j) = gs at *
      generalize l[j] = x at *
      obtain ⟨kd, x⟩ := x
      obtain ⟨S, ix⟩ := I
      simp only at k0 k1 k2 k3 hkj hgood hlen
      have hHr : H ≤ wr.heap.size := hsv.hI
      obtain ⟨po, co, rfl, _⟩ := id hsv.out.shape
      obtain ⟨pb, cb, rfl, _⟩ := id hsv.is.shape
      simp only [List.length_map] at hsv ⊢
      have HV := Lib.hid hsv
      have HTA := Lib.hid hta
      have HTG := Lib.hid htg
      have HGL := Lib.hid hgl
      have hr0 : wr.heap.size ≤ wr.heap.size := Nat.le_refl _
      clear hc hat hta htg hgl hsv hwr
      rcases hkj with ⟨rfl, hxg⟩ | rfl | rfl | rfl
      · have HA := fun W (hi : InfAt W H H ⟨S, ix⟩ sv) => Lib.hid (addServer H H ⟨S, ix⟩ sv x W hi (Nat.le_refl _) hxg hgood (by simp only; omega))
        have HSO := fun W => Lib.hid (serverOf x.p (bs x.a) x.n W)
        have HZ := Lib.hid (show [outCs none].flatten = [.string ⟨#[]⟩, .string ⟨#[]⟩, .int .i64 0] by simp [outCs, Srv.cs, noSrv, bs])
        generalize hS1 : bs x.a = S1 at *
        clear hxg hgood hlen
        go_wp2_with (first
          | (go_at_call 32; go_must (refine (HSO _).out.mono ?_); rintro e w1 ⟨rfl, hg1⟩; have HV1 := Lib.hid (HV.out.gr (((Gr.refl wr).alloc _).trans hg1)); have s1 := hg1.size; simp at s1; clear hg1)
          | (go_at_call 31; go_must (refine (HA _ HV1.out.inf).out.mono ?_); rintro e w2 ⟨rfl, sv2, hi2, hf2⟩; have HV2 := Lib.hid (HV1.out.step hi2 hf2); clear hi2 hf2)
          | (at_builtin; (refine wpList_append_row rfl _ _ rfl Tryd.underlying22 svInfo rfl (by decide) (by decide) (B := H) (cs := gs.map outCs) rfl (HV2.out.gr (((Gr.refl w2).alloc _).alloc _)).out [outCs none] (out_one none) ⟨w2.heap.size + 1, 0, none⟩ 1 1 rfl rfl (cells_new (by simp) HZ.out) (by have := HGL.out; have e : (gs.map outCs).length = gs.length := List.length_map _; omega) (HV2.out.gr (((Gr.refl w2).alloc _).alloc _)).hI ?_); intro v5 w5 ho5 hg5; obtain ⟨p5, c5, rfl, _⟩ := id ho5.shape; simp only [List.length_append, List.length_map, List.length_cons, List.length_nil, Nat.zero_add] at ho5; have HO5 := Lib.hid ho5; have HG5 := Lib.hid hg5; clear ho5 hg5; have s5 : H ≤ w5.heap.size := Nat.le_trans (HV2.out.gr (((Gr.refl w2).alloc _).alloc _)).hI HG5.out.size)
          | (at_builtin; have _t := s5; go_must (refine wpList_append_row rfl _ _ rfl Tryd.underlying33 boolInfo rfl (by decide) (by decide) (B := H) (cs := gs.map isCs) rfl (OwnR.gr ((HV2.out.gr (((Gr.refl w2).alloc _).alloc _)).is.other (HV2.out.gr (((Gr.refl w2).alloc _).alloc _)).out HG5.out (by decide)) ((Gr.refl w5).alloc _)) [isCs none] (is_one none) ⟨w5.heap.size, 0, none⟩ 1 1 rfl rfl (cells_new rfl rfl) (by have := HGL.out; have e : (gs.map isCs).length = gs.length := List.length_map _; omega) (by simp; omega) ?_); intro v6 w6 ho6 hg6; obtain ⟨p6, c6, rfl, _⟩ := id ho6.shape; simp only [List.length_append, List.length_map, List.length_cons, List.length_nil, Nat.zero_add] at ho6; have HO6 := Lib.hid ho6; have HG6 := Lib.hid hg6; clear ho6 hg6))
        go_roundw
        case rel => exact ⟨j + 1, _, by go_num, by omega, by rw [HTA.out, HTG.out]; exact (HV2.out.gr (((Gr.refl w2).alloc _).alloc _)).grow HO5.out HG5.out ((Gr.refl w5).alloc _) HO6.out HG6.out⟩
        case measure => simp [intOf]; omega
      · have HGA := fun W (hi : InfAt W H H ⟨S, ix⟩ sv) => Lib.hid (getActive H H S ix sv false W hi (Nat.le_refl _) (by omega))
        clear hgood hlen
        generalize hS1 : bs x.a = S1 at *
        cases hgo : S[ix]? with
        | none =>
          have HGO := Lib.hid hgo
          clear hgo
          have HZ := Lib.hid (show [outCs none].flatten = [.string ⟨#[]⟩, .string ⟨#[]⟩, .int .i64 0] by simp [outCs, Srv.cs, noSrv, bs])
          go_wp2_with (first
            | (go_at_call 33; go_must (refine (HGA _ (HV.out.gr ((Gr.refl wr).alloc _)).inf).out.mono ?_); rintro e w2 ⟨q, rfl, hq, hi2, hf2⟩; simp [HGO.out, GotAt] at hq; obtain rfl := hq; have HV2 := Lib.hid ((HV.out.gr ((Gr.refl wr).alloc _)).step hi2 hf2); clear hi2 hf2)
            | (at_builtin; (refine wpList_append_row rfl _ _ rfl Tryd.underlying22 svInfo rfl (by decide) (by decide) (B := H) (cs := gs.map outCs) rfl (HV2.out.gr (((Gr.refl w2).alloc _).alloc _)).out [outCs none] (out_one none) ⟨w2.heap.size + 1, 0, none⟩ 1 1 rfl rfl (cells_new (by simp) HZ.out) (by have := HGL.out; have e : (gs.map outCs).length = gs.length := List.length_map _; omega) (HV2.out.gr (((Gr.refl w2).alloc _).alloc _)).hI ?_); intro v5 w5 ho5 hg5; obtain ⟨p5, c5, rfl, _⟩ := id ho5.shape; simp only [List.length_append, List.length_map, List.length_cons, List.length_nil, Nat.zero_add] at ho5; have HO5 := Lib.hid ho5; have HG5 := Lib.hid hg5; clear ho5 hg5; have s5 : H ≤ w5.heap.size := Nat.le_trans (HV2.out.gr (((Gr.refl w2).alloc _).alloc _)).hI HG5.out.size)
            | (at_builtin; have _t := s5; go_must (refine wpList_append_row rfl _ _ rfl Tryd.underlying33 boolInfo rfl (by decide) (by decide) (B := H) (cs := gs.map isCs) rfl (OwnR.gr ((HV2.out.gr (((Gr.refl w2).alloc _).alloc _)).is.other (HV2.out.gr (((Gr.refl w2).alloc _).alloc _)).out HG5.out (by decide)) ((Gr.refl w5).alloc _)) [isCs none] (is_one none) ⟨w5.heap.size, 0, none⟩ 1 1 rfl rfl (cells_new rfl rfl) (by have := HGL.out; have e : (gs.map isCs).length = gs.length := List.length_map _; omega) (by simp; omega) ?_); intro v6 w6 ho6 hg6; obtain ⟨p6, c6, rfl, _⟩ := id ho6.shape; simp only [List.length_append, List.length_map, List.length_cons, List.length_nil, Nat.zero_add] at ho6; have HO6 := Lib.hid ho6; have HG6 := Lib.hid hg6; clear ho6 hg6))
          go_roundw
          case rel => exact ⟨j + 1, _, by go_num, by omega, by rw [HTA.out, HTG.out, show Inf.got ⟨S, ix⟩ ⟨1, x⟩ = none from HGO.out]; exact (HV2.out.gr (((Gr.refl w2).alloc _).alloc _)).grow HO5.out HG5.out ((Gr.refl w5).alloc _) HO6.out HG6.out⟩
          case measure => simp [intOf]; omega
        | some s =>
          have HGO := Lib.hid hgo
          clear hgo
          have HP := fun W => Lib.hid (plainServer s.p (bs s.a) s.n W)
          have HZ := Lib.hid (show [outCs (some s)].flatten = [.string s.p, .string (bs s.a), .int .i64 s.n] by simp [outCs, Srv.cs])
          generalize hS2 : bs s.a = S2 at *
          go_wp2_with (first
            | (go_at_call 33; go_must (refine (HGA _ (HV.out.gr ((Gr.refl wr).alloc _)).inf).out.mono ?_); rintro e w2 ⟨q, rfl, hq, hi2, hf2⟩; simp [HGO.out, GotAt] at hq; obtain ⟨bq, kq, rfl, hat⟩ := hq; obtain ⟨q0, q1, q2⟩ := hat; rw [hS2] at q1; have hbq := World.block_lt_of_cell? _ _ q0; have HV2 := Lib.hid ((HV.out.gr ((Gr.refl wr).alloc _)).step hi2 hf2); clear hi2 hf2)
            | (go_at_call 35; go_must (refine (HP _).out.mono ?_); rintro e w3 ⟨rfl, hg3⟩; have hz := hg3.heap (heap_alloc_new w2 _); have HS3 := Lib.hid (set3 (.string s.p) (.string S2) (.int .i64 s.n) hz (((Gr.refl w2).alloc _).trans hg3) (Nat.le_refl _)); have z0 := blk_cell hz 0; have z1 := blk_cell hz 1; have z2 := blk_cell hz 2; simp at z0 z1 z2; have f0 := blk_free hz 0; have f1 := blk_free hz 1; have f2 := blk_free hz 2; clear hz hg3)
            | (at_builtin; (refine wpList_append_row rfl _ _ rfl Tryd.underlying22 svInfo rfl (by decide) (by decide) (B := H) (cs := gs.map outCs) rfl (HV2.out.gr ((HS3.out.2.2).alloc _)).out [outCs (some s)] (out_one (some s)) ⟨w3.heap.size, 0, none⟩ 1 1 rfl rfl (cells_new (by simp) HZ.out) (by have := HGL.out; have e : (gs.map outCs).length = gs.length := List.length_map _; omega) (HV2.out.gr ((HS3.out.2.2).alloc _)).hI ?_); intro v5 w5 ho5 hg5; obtain ⟨p5, c5, rfl, _⟩ := id ho5.shape; simp only [List.length_append, List.length_map, List.length_cons, List.length_nil, Nat.zero_add] at ho5; have HO5 := Lib.hid ho5; have HG5 := Lib.hid hg5; clear ho5 hg5; have s5 : H ≤ w5.heap.size := Nat.le_trans (HV2.out.gr ((HS3.out.2.2).alloc _)).hI HG5.out.size)
            | (at_builtin; have _t := s5; go_must (refine wpList_append_row rfl _ _ rfl Tryd.underlying33 boolInfo rfl (by decide) (by decide) (B := H) (cs := gs.map isCs) rfl (OwnR.gr ((HV2.out.gr ((HS3.out.2.2).alloc _)).is.other (HV2.out.gr ((HS3.out.2.2).alloc _)).out HG5.out (by decide)) ((Gr.refl w5).alloc _)) [isCs (some s)] (is_one (some s)) ⟨w5.heap.size, 0, none⟩ 1 1 rfl rfl (cells_new rfl rfl) (by have := HGL.out; have e : (gs.map isCs).length = gs.length := List.length_map _; omega) (by simp; omega) ?_); intro v6 w6 ho6 hg6; obtain ⟨p6, c6, rfl, _⟩ := id ho6.shape; simp only [List.length_append, List.length_map, List.length_cons, List.length_nil, Nat.zero_add] at ho6; have HO6 := Lib.hid ho6; have HG6 := Lib.hid hg6; clear ho6 hg6))
          go_roundw
          case rel => exact ⟨j + 1, _, by go_num, by omega, by rw [HTA.out, HTG.out, show Inf.got ⟨S, ix⟩ ⟨1, x⟩ = some s from HGO.out]; exact (HV2.out.gr ((HS3.out.2.2).alloc _)).grow HO5.out HG5.out ((Gr.refl w5).alloc _) HO6.out HG6.out⟩
          case measure => simp [intOf]; omega
      · have HGA := fun W (hi : InfAt W H H ⟨S, ix⟩ sv) => Lib.hid (getActive H H S ix sv true W hi (Nat.le_refl _) (by omega))
        clear hgood hlen
        generalize hS1 : bs x.a = S1 at *
        cases hgo : S[ix + 1]? with
        | none =>
          have HGO := Lib.hid hgo
          clear hgo
          have HZ := Lib.hid (show [outCs none].flatten = [.string ⟨#[]⟩, .string ⟨#[]⟩, .int .i64 0] by simp [outCs, Srv.cs, noSrv, bs])
          go_wp2_with (first
            | (go_at_call 33; go_must (refine (HGA _ (HV.out.gr ((Gr.refl wr).alloc _)).inf).out.mono ?_); rintro e w2 ⟨q, rfl, hq, hi2, hf2⟩; simp [HGO.out, GotAt] at hq; obtain rfl := hq; have HV2 := Lib.hid ((HV.out.gr ((Gr.refl wr).alloc _)).step hi2 hf2); clear hi2 hf2)
            | (at_builtin; (refine wpList_append_row rfl _ _ rfl Tryd.underlying22 svInfo rfl (by decide) (by decide) (B := H) (cs := gs.map outCs) rfl (HV2.out.gr (((Gr.refl w2).alloc _).alloc _)).out [outCs none] (out_one none) ⟨w2.heap.size + 1, 0, none⟩ 1 1 rfl rfl (cells_new (by simp) HZ.out) (by have := HGL.out; have e : (gs.map outCs).length = gs.length := List.length_map _; omega) (HV2.out.gr (((Gr.refl w2).alloc _).alloc _)).hI ?_); intro v5 w5 ho5 hg5; obtain ⟨p5, c5, rfl, _⟩ := id ho5.shape; simp only [List.length_append, List.length_map, List.length_cons, List.length_nil, Nat.zero_add] at ho5; have HO5 := Lib.hid ho5; have HG5 := Lib.hid hg5; clear ho5 hg5; have s5 : H ≤ w5.heap.size := Nat.le_trans (HV2.out.gr (((Gr.refl w2).alloc _).alloc _)).hI HG5.out.size)
            | (at_builtin; have _t := s5; go_must (refine wpList_append_row rfl _ _ rfl Tryd.underlying33 boolInfo rfl (by decide) (by decide) (B := H) (cs := gs.map isCs) rfl (OwnR.gr ((HV2.out.gr (((Gr.refl w2).alloc _).alloc _)).is.other (HV2.out.gr (((Gr.refl w2).alloc _).alloc _)).out HG5.out (by decide)) ((Gr.refl w5).alloc _)) [isCs none] (is_one none) ⟨w5.heap.size, 0, none⟩ 1 1 rfl rfl (cells_new rfl rfl) (by have := HGL.out; have e : (gs.map isCs).length = gs.length := List.length_map _; omega) (by simp; omega) ?_); intro v6 w6 ho6 hg6; obtain ⟨p6, c6, rfl, _⟩ := id ho6.shape; simp only [List.length_append, List.length_map, List.length_cons, List.length_nil, Nat.zero_add] at ho6; have HO6 := Lib.hid ho6; have HG6 := Lib.hid hg6; clear ho6 hg6))
          go_roundw
          case rel => exact ⟨j + 1, _, by go_num, by omega, by rw [HTA.out, HTG.out, show Inf.got ⟨S, ix⟩ ⟨2, x⟩ = none from HGO.out]; exact (HV2.out.gr (((Gr.refl w2).alloc _).alloc _)).grow HO5.out HG5.out ((Gr.refl w5).alloc _) HO6.out HG6.out⟩
          case measure => simp [intOf]; omega
        | some s =>
          have HGO := Lib.hid hgo
          clear hgo
          have HP := fun W => Lib.hid (plainServer s.p (bs s.a) s.n W)
          have HZ := Lib.hid (show [outCs (some s)].flatten = [.string s.p, .string (bs s.a), .int .i64 s.n] by simp [outCs, Srv.cs])
          generalize hS2 : bs s.a = S2 at *
          go_wp2_with (first
            | (go_at_call 33; go_must (refine (HGA _ (HV.out.gr ((Gr.refl wr).alloc _)).inf).out.mono ?_); rintro e w2 ⟨q, rfl, hq, hi2, hf2⟩; simp [HGO.out, GotAt] at hq; obtain ⟨bq, kq, rfl, hat⟩ := hq; obtain ⟨q0, q1, q2⟩ := hat; rw [hS2] at q1; have hbq := World.block_lt_of_cell? _ _ q0; have HV2 := Lib.hid ((HV.out.gr ((Gr.refl wr).alloc _)).step hi2 hf2); clear hi2 hf2)
            | (go_at_call 35; go_must (refine (HP _).out.mono ?_); rintro e w3 ⟨rfl, hg3⟩; have hz := hg3.heap (heap_alloc_new w2 _); have HS3 := Lib.hid (set3 (.string s.p) (.string S2) (.int .i64 s.n) hz (((Gr.refl w2).alloc _).trans hg3) (Nat.le_refl _)); have z0 := blk_cell hz 0; have z1 := blk_cell hz 1; have z2 := blk_cell hz 2; simp at z0 z1 z2; have f0 := blk_free hz 0; have f1 := blk_free hz 1; have f2 := blk_free hz 2; clear hz hg3)
            | (at_builtin; (refine wpList_append_row rfl _ _ rfl Tryd.underlying22 svInfo rfl (by decide) (by decide) (B := H) (cs := gs.map outCs) rfl (HV2.out.gr ((HS3.out.2.2).alloc _)).out [outCs (some s)] (out_one (some s)) ⟨w3.heap.size, 0, none⟩ 1 1 rfl rfl (cells_new (by simp) HZ.out) (by have := HGL.out; have e : (gs.map outCs).length = gs.length := List.length_map _; omega) (HV2.out.gr ((HS3.out.2.2).alloc _)).hI ?_); intro v5 w5 ho5 hg5; obtain ⟨p5, c5, rfl, _⟩ := id ho5.shape; simp only [List.length_append, List.length_map, List.length_cons, List.length_nil, Nat.zero_add] at ho5; have HO5 := Lib.hid ho5; have HG5 := Lib.hid hg5; clear ho5 hg5; have s5 : H ≤ w5.heap.size := Nat.le_trans (HV2.out.gr ((HS3.out.2.2).alloc _)).hI HG5.out.size)
            | (at_builtin; have _t := s5; go_must (refine wpList_append_row rfl _ _ rfl Tryd.underlying33 boolInfo rfl (by decide) (by decide) (B := H) (cs := gs.map isCs) rfl (OwnR.gr ((HV2.out.gr ((HS3.out.2.2).alloc _)).is.other (HV2.out.gr ((HS3.out.2.2).alloc _)).out HG5.out (by decide)) ((Gr.refl w5).alloc _)) [isCs (some s)] (is_one (some s)) ⟨w5.heap.size, 0, none⟩ 1 1 rfl rfl (cells_new rfl rfl) (by have := HGL.out; have e : (gs.map isCs).length = gs.length := List.length_map _; omega) (by simp; omega) ?_); intro v6 w6 ho6 hg6; obtain ⟨p6, c6, rfl, _⟩ := id ho6.shape; simp only [List.length_append, List.length_map, List.length_cons, List.length_nil, Nat.zero_add] at ho6; have HO6 := Lib.hid ho6; have HG6 := Lib.hid hg6; clear ho6 hg6))
          go_roundw
          case rel => exact ⟨j + 1, _, by go_num, by omega, by rw [HTA.out, HTG.out, show Inf.got ⟨S, ix⟩ ⟨2, x⟩ = some s from HGO.out]; exact (HV2.out.gr ((HS3.out.2.2).alloc _)).grow HO5.out HG5.out ((Gr.refl w5).alloc _) HO6.out HG6.out⟩
          case measure => simp [intOf]; omega
      · have HR := fun W (hi : InfAt W H H ⟨S, ix⟩ sv) => Lib.hid (resetIndex H H S ix sv W hi (Nat.le_refl _))
        have HZ := Lib.hid (show [outCs none].flatten = [.string ⟨#[]⟩, .string ⟨#[]⟩, .int .i64 0] by simp [outCs, Srv.cs, noSrv, bs])
        generalize hS1 : bs x.a = S1 at *
        clear hgood hlen
        go_wp2_with (first
          | (go_at_call 34; go_must (refine (HR _ (HV.out.gr ((Gr.refl wr).alloc _)).inf).out.mono ?_); rintro e w2 ⟨rfl, hi2, hf2⟩; have HV2 := Lib.hid ((HV.out.gr ((Gr.refl wr).alloc _)).step hi2 hf2); clear hi2 hf2)
          | (at_builtin; (refine wpList_append_row rfl _ _ rfl Tryd.underlying22 svInfo rfl (by decide) (by decide) (B := H) (cs := gs.map outCs) rfl (HV2.out.gr (((Gr.refl w2).alloc _).alloc _)).out [outCs none] (out_one none) ⟨w2.heap.size + 1, 0, none⟩ 1 1 rfl rfl (cells_new (by simp) HZ.out) (by have := HGL.out; have e : (gs.map outCs).length = gs.length := List.length_map _; omega) (HV2.out.gr (((Gr.refl w2).alloc _).alloc _)).hI ?_); intro v5 w5 ho5 hg5; obtain ⟨p5, c5, rfl, _⟩ := id ho5.shape; simp only [List.length_append, List.length_map, List.length_cons, List.length_nil, Nat.zero_add] at ho5; have HO5 := Lib.hid ho5; have HG5 := Lib.hid hg5; clear ho5 hg5; have s5 : H ≤ w5.heap.size := Nat.le_trans (HV2.out.gr (((Gr.refl w2).alloc _).alloc _)).hI HG5.out.size)
          | (at_builtin; have _t := s5; go_must (refine wpList_append_row rfl _ _ rfl Tryd.underlying33 boolInfo rfl (by decide) (by decide) (B := H) (cs := gs.map isCs) rfl (OwnR.gr ((HV2.out.gr (((Gr.refl w2).alloc _).alloc _)).is.other (HV2.out.gr (((Gr.refl w2).alloc _).alloc _)).out HG5.out (by decide)) ((Gr.refl w5).alloc _)) [isCs none] (is_one none) ⟨w5.heap.size, 0, none⟩ 1 1 rfl rfl (cells_new rfl rfl) (by have := HGL.out; have e : (gs.map isCs).length = gs.length := List.length_map _; omega) (by simp; omega) ?_); intro v6 w6 ho6 hg6; obtain ⟨p6, c6, rfl, _⟩ := id ho6.shape; simp only [List.length_append, List.length_map, List.length_cons, List.length_nil, Nat.zero_add] at ho6; have HO6 := Lib.hid ho6; have HG6 := Lib.hid hg6; clear ho6 hg6))
        go_roundw
        case rel => exact ⟨j + 1, _, by go_num, by omega, by rw [HTA.out, HTG.out]; exact (HV2.out.gr (((Gr.refl w2).alloc _).alloc _)).grow HO5.out HG5.out ((Gr.refl w5).alloc _) HO6.out HG6.out⟩
        case measure => simp [intOf]; omega
    · obtain rfl : n = j := by omega
      have et : l.take n = l := by rw [← HN.out, List.take_length]
      rw [et] at hsv
      clear et
      have hlen := (Inf.all_len l ⟨[], 0⟩).1
      simp only [List.length_nil, Nat.zero_add] at hlen
      have hwr : Below H w wr := hsv.below
      generalize hIE : Inf.all ⟨[], 0⟩ l = I at *
      generalize hGE : Inf.gots ⟨[], 0⟩ l = gs at *
      obtain ⟨S, ix⟩ := I
      generalize wr = wA at *
      have HIE := Lib.hid hIE
      have HGE := Lib.hid hGE
      clear hIE hGE
      obtain ⟨m, hm⟩ : ∃ m, S.length = m := ⟨_, rfl⟩
      have hm400 : m ≤ 400 := by simp only at hlen; have := HN.out; omega
      have hHr : H ≤ wA.heap.size := hsv.hI
      obtain ⟨po, co, rfl, _⟩ := id hsv.out.shape
      obtain ⟨pb, cb, rfl, _⟩ := id hsv.is.shape
      obtain ⟨ps, cs, rfl, hcs1, hcs2, _⟩ := id hsv.inf.row.shape
      simp only [List.length_map] at hsv hcs1 ⊢
      rw [hm] at hsv hcs1
      have hcs3 : cs ≤ 9223372036854775807 := by simp only [maxLen] at hcs2; omega
      have b2 := blk_cell hsv.inf.blk 2
      simp [infoC] at b2
      have HV := Lib.hid hsv
      have HM := Lib.hid hm
      clear hsv hm hlen hcs2 HK
      go_wp2
      go_loopw [57, 12] (fun i av wz => ∃ t : Nat, i = .int .i64 t ∧ t ≤ m ∧ OwnR 26 3 wA.heap.size wz av ((S.take t).map Srv.cs) ∧ Gr wA wz) (fun i _ _ => ((m : Int) - intOf i).toNat)
      case atStart => exact ⟨0, rfl, Nat.zero_le _, OwnR.nil _ _ _ _, Gr.refl _⟩
      case round =>
        obtain ⟨t, rfl, ht, hown, hgr⟩ := hrel
        have hlt : (S.take t).length = t := by rw [List.length_take, HM.out]; omega
        by_cases e2 : t < m
        · have htl : t < S.length := by rw [HM.out]; exact e2
          obtain ⟨bb, cap, hv, _, _, _, _, hat⟩ := ((HV.out.gr hgr).inf.row).at' (by rw [List.length_map]; simp only; omega)
          simp only [Value.slice.injEq] at hv
          obtain ⟨rfl, hxx, rfl⟩ := hv
          clear hxx
          have hsj : (S.map Srv.cs)[t]? = some (Srv.cs S[t]) := by simp [htl]
          have x0 : World.cell? _ ⟨bb, t * 3, none⟩ = _ := hat t 0 _ _ hsj rfl
          have x1 : World.cell? _ ⟨bb, t * 3 + 1, none⟩ = _ := hat t 1 _ _ hsj rfl
          have x2 : World.cell? _ ⟨bb, t * 3 + 2, none⟩ = _ := hat t 2 _ _ hsj rfl
          have hsn : (S.take (t + 1)).map Srv.cs = (S.take t).map Srv.cs ++ [Srv.cs S[t]] := by rw [List.take_succ_eq_append_getElem htl, List.map_append]; rfl
          generalize S[t] = y at *
          generalize S.take t = tk at *
          obtain ⟨pa, ca, rfl, _⟩ := id hown.shape
          simp only [List.length_map, hlt] at hown ⊢
          have HP := fun W => Lib.hid (plainServer y.p (bs y.a) y.n W)
          have HZ := Lib.hid (show [Srv.cs y].flatten = [.string y.p, .string (bs y.a), .int .i64 y.n] by simp [Srv.cs])
          generalize hS2 : bs y.a = S2 at *
          have HOW := Lib.hid hown
          have HGR := Lib.hid hgr
          have HSN := Lib.hid hsn
          have sz := hgr.size
          clear hown hgr hsn hat hsj
          go_wp2_with (first
            | (go_at_call 35; go_must (refine (HP _).out.mono ?_); rintro e w2 ⟨rfl, hg2⟩; have HG2 := Lib.hid ((Gr.alloc (Gr.refl _) _).trans hg2); have s2 := HG2.out.size; clear hg2)
            | (at_builtin; go_must (refine wpList_append_row rfl _ _ rfl Tryd.underlying22 svInfo rfl (by decide) (by decide) (B := wA.heap.size) (cs := tk.map Srv.cs) rfl (OwnR.gr HOW.out (HG2.out.alloc _)) [y.cs] (sv_one y) ⟨w2.heap.size, 0, none⟩ 1 1 rfl rfl (cells_new rfl HZ.out) (by rw [List.length_map]; omega) (by simp; omega) ?_); intro v5 w5 ho5 hg5; have HG5 := Lib.hid (Below.trans (HGR.out.trans (HG2.out.alloc _)) ((OwnR.gr HOW.out (HG2.out.alloc _)).below hg5 (by simp; omega))); have HO5 := Lib.hid ho5; clear ho5 hg5))
          go_roundw
          case rel => exact ⟨t + 1, by go_num, by omega, by rw [HSN.out]; exact HO5.out, HG5.out⟩
          case measure => simp [intOf]; omega
        · obtain rfl : m = t := by omega
          have et : S.take m = S := by rw [← HM.out, List.take_length]
          rw [et] at hown
          obtain ⟨pa, ca, rfl, _⟩ := id hown.shape
          have HOW := Lib.hid hown
          have HGR := Lib.hid hgr
          clear hown hgr et
          go_wp2
          go_ret3
          have hv := HV.out.gr HGR.out
          rw [HIE.out, HGE.out]
          exact ⟨_, _, _, rfl, hv.out, hv.is, HOW.out.mono hHr, by have := hv.below; rw [← hH] at this; exact this⟩
end Go.Proofs.YtkonfcgdokabaaaDoor
