/- FnSessionGet: the walk. -/
import Derived.Test.YtgkccbfepjgjoaaDoorSeLw
import Derived.Deep.DeepCutAuto
import Derived.Deep.CutBlock
namespace Go.Proofs.YtgkccbfepjgjoaaDoor
open Go Go.RowKit

theorem run_cutRH {T t : TypeId} {sz bytes : Nat} {z : Value} (hsl : Tryd.prog.underlying t = some (.slice T)) (hinfo : (Tryd.prog.info? T).map (fun i => (i.zero, i.size, i.bytes)) = some (some z, sz, bytes)) (b o n c k : Nat) (hk : k < n) (hc : n ≤ c) (w : World) :
    (Instr.slice t (.slice (some ⟨b, o, none⟩) n c) none (some (.int .i64 (k : Nat))) none).run Tryd.prog w = .ok (.slice (some ⟨b, o, none⟩) k c) w := by
  obtain ⟨i, hi, hz, hz1, hz2⟩ := info_parts hinfo
  have h1 : (0 : Int) ≤ k ∧ (k : Int) ≤ c := by omega
  have hne : ¬ c = 0 := by omega
  have e4 : Instr.sliceBound (.int .i64 (k : Nat)) c .sliceAcap = pure k := by simp [Instr.sliceBound, asIntOf, h1]
  simp [Instr.slice, Instr.sliceBounds, e4, run_underlying hsl, sizeOf, typeInfo, hi, hz1, hne]
  rw [Lib.addr_add]
  rfl

theorem RdSt.take {w : World} {v : Value} {l : List St} (h : RdSt w v l) (k : Nat) (hk : k ≤ l.length) {b o c : Nat} {n : Nat} (hv : v = .slice (some ⟨b, o, none⟩) n c) : RdSt w (.slice (some ⟨b, o, none⟩) k c) (l.take k) := by
  obtain ⟨p, c', e, h1, h2, h3⟩ := h
  rw [hv] at e
  injection e with e1 e2 e3
  subst e3
  refine ⟨_, c, by rw [List.length_take, Nat.min_eq_left hk], by rw [List.length_take]; omega, h2, fun hn => ⟨b, o, rfl, fun i hi => ?_⟩⟩
  rw [List.length_take] at hn hi
  obtain ⟨b', o', e', hc⟩ := h3 (by omega)
  rw [← e1] at e'
  injection e' with e'
  injection e' with e4 e5
  subst e4; subst e5
  rw [List.getElem_take]
  exact hc i (by omega)

theorem Sx.ne {w : World} {r b : Nat} {xs : List Int} {t o : Bool} {c : Array Value} {T : TypeId} {fr : Nat × Nat} (h : Sx w r xs t o) (hb : w.heap[b]? = some (.cells c T fr)) (hT : T ≠ 56) : b ≠ r := by
  rintro rfl
  obtain ⟨v, h1, _⟩ := h
  rw [h1] at hb
  simp only [Option.some.injEq, Obj.cells.injEq] at hb
  exact hT hb.2.1.symm
theorem OwnS.fl {B r : Nat} {w w' : World} {v : Value} {l : List St} {xs : List Int} {t o : Bool} (h : OwnS B w v l) (hs : Sx w r xs t o) (g : Fl r w w') : OwnS B w' v l :=
  OwnR.fx h g.fx (fun b hb => by obtain ⟨_, c, hc⟩ := OwnR.blk h b hb; exact hs.ne hc (by decide))
theorem g_one (g : G) (pd po : Option Addr) (nd cd no co : Nat) : ∀ c ∈ [g.cs (.slice pd nd cd) (.slice po no co)], c.length = 5 ∧ ∀ u ∈ c, u.oneCell' = true := by
  intro c hc
  simp only [List.mem_singleton] at hc
  subst hc
  refine ⟨rfl, fun u hu => ?_⟩
  simp only [G.cs, List.mem_cons, List.not_mem_nil, or_false] at hu
  rcases hu with rfl | rfl | rfl | rfl | rfl <;> rfl

/-- Behind the law's loop: the steps that are left, the answers that are wanted. -/
def GetMid (w : World) (r : Nat) (big : Bool) (inp : List Int) (sv wv : Value) (wc : World) : Prop :=
  ∃ (steps : List St) (out : List G) (o : Option (List Int)) (xs : List Int) (t oo : Bool), RdSt wc sv steps ∧ steps.length ≤ 30 ∧ RdG wc wv out ∧ Runs big steps inp out o ∧ Sx wc r xs t oo ∧ Gr w wc ∧ (t = false → oo = false → o = some xs)

/-- In the loop. -/
structure LInv (w : World) (r : Nat) (big : Bool) (steps : List St) (inp : List Int) (sv : Value) (j : Nat) (wv : Value) (gs : List G) (xs : List Int) (wr : World) : Prop where
  sx : Sx wr r xs false false
  gr : Gr w wr
  hr : w.heap.size ≤ r
  st : OwnS w.heap.size wr sv steps
  wt : WantR r w.heap.size wr wv gs
  pre : Runs big (steps.take j) inp gs (some xs)
  hj : j ≤ steps.length

set_option maxRecDepth 100000 in
set_option maxHeartbeats 4000000 in
theorem lawGet (vi vl : Value) (inp : List Int) (l : List Ak) (big : Bool) (E : Value) (w : World) (hi : Rd w vi inp) (hl : RdAk w vl l) (hz : ∀ x ∈ l, x.z < 256) (hE : EndE w E) :
    Calls Tryd.prog 10 #[vi, vl, .bool big] w (RetT w) := by
  have HI := Lib.hid hi
  have HL := Lib.hid hl
  have HE := Lib.hid hE
  obtain ⟨p, c, rfl, _⟩ := hi
  obtain ⟨pl, cl, rfl, _⟩ := hl
  obtain ⟨ni, hni⟩ : ∃ n, inp.length = n := ⟨_, rfl⟩
  obtain ⟨nl, hnl⟩ : ∃ n, l.length = n := ⟨_, rfl⟩
  have HNI := Lib.hid hni
  have HNL := Lib.hid hnl
  rw [hni] at HI ⊢
  rw [hnl] at HL ⊢
  have HLV := fun W (h : EndE W E) => Lib.hid (sessionLive E W h)
  clear hni hnl hE
  by_cases h1 : 2147483647 < ni
  · go_enter Tryd.func10, Tryd.ntmps10
    go_wp2
    go_ret
    exact ⟨rfl, Gr.refl _⟩
  by_cases h2 : 2147483647 < nl
  · have h1' : ni ≤ 2147483647 := by omega
    go_enter Tryd.func10, Tryd.ntmps10
    go_wp2
    go_ret
    exact ⟨rfl, Gr.refl _⟩
  by_cases h3 : 1000 < ni
  · have h1' : ni ≤ 2147483647 := by omega
    have h2' : nl ≤ 2147483647 := by omega
    clear h1 h2
    go_enter Tryd.func10, Tryd.ntmps10
    go_wp2_with (first
      | (go_at_call 14; go_must (refine (HLV _ HE.out).out.mono ?_); rintro e w2 ⟨rfl, hg2⟩))
    go_ret
    exact ⟨rfl, hg2⟩
  by_cases h4 : 30 < nl
  · have h3' : ni ≤ 1000 := by omega
    have h2' : nl ≤ 2147483647 := by omega
    clear h1 h2 h3
    go_enter Tryd.func10, Tryd.ntmps10
    go_wp2_with (first
      | (go_at_call 14; go_must (refine (HLV _ HE.out).out.mono ?_); rintro e w2 ⟨rfl, hg2⟩))
    go_ret
    exact ⟨rfl, hg2⟩
  have h3' : ni ≤ 1000 := by omega
  have h4' : nl ≤ 30 := by omega
  have HAS := Lib.hid (sessionAsks _ l w HL.out (by rw [HNL.out]; exact h4'))
  have HCL := fun W (h : Rd W (.slice p ni c) inp) => Lib.hid (clone _ inp W h (by rw [HNI.out]; omega))
  have hask : ∀ x ∈ l.map askOf, x.Ask := fun x hx => by
    obtain ⟨y, hy, rfl⟩ := List.mem_map.1 hx
    exact askOf_ask y (hz y hy)
  have HASK := Lib.hid hask
  have HSTL := Lib.hid (show (l.map askOf).length = nl by rw [List.length_map, HNL.out])
  generalize l.map askOf = steps at *
  clear h1 h2 h3 h4 hz hask
  go_enter Tryd.func10, Tryd.ntmps10
  go_upto_block 0 with (first
    | (go_at_call 24; go_must (refine HAS.out.mono ?_); rintro e w1 ⟨u1, rfl, ho1, hg1⟩; have HO1 := Lib.hid ho1; have HG1 := Lib.hid hg1; obtain ⟨p1, c1, rfl, hc1, hm1, _⟩ := OwnR.shape ho1; rw [List.length_map, HSTL.out] at HO1 hc1 ⊢; clear ho1 hg1)
    | (go_at_call 16; go_must (refine (HCL _ (HI.out.gr HG1.out)).out.mono ?_); rintro e w2 ⟨u2, rfl, ho2, hg2⟩; obtain ⟨p2, c2, rfl, _⟩ := id ho2.rd; rw [HNI.out] at ho2 ⊢; have HO2 := Lib.hid ho2; have HG2 := Lib.hid (HG1.out.trans hg2); have HO1 := Lib.hid (OwnR.gr HO1.out hg2); clear ho2 hg2))
  obtain ⟨r, hr⟩ : ∃ r, w2.heap.size = r := ⟨_, rfl⟩
  have hwr : w.heap.size ≤ r := by rw [← hr]; exact HG2.out.size
  have HSX : Hid (Sx (w2.alloc (.cells #[.slice p2 ni c2, .bool false, .bool false] 56)) r inp false false) := by
    subst hr
    exact Lib.hid ⟨_, heap_alloc_new w2 _, HO2.out.rd.gr ((Gr.refl w2).alloc _), HO2.out.lo.off (Nat.le_refl _), (fun a n c e => by have := HO2.out.lo a n c e; simp; omega), by rw [HNI.out]; omega⟩
  have HGW := Lib.hid (HG2.out.alloc (.cells #[.slice p2 ni c2, .bool false, .bool false] 56))
  have HOW := Lib.hid (OwnR.gr HO1.out ((Gr.refl w2).alloc (.cells #[.slice p2 ni c2, .bool false, .bool false] 56)))
  have hpk : p1 = none → nl = 0 := by
    obtain ⟨_, _, e, _, _, e2⟩ := OwnR.shape HO1.out
    intro h
    injection e with e3 e4
    have := e2 (by rw [← e3]; exact h)
    have h5 := HSTL.out
    rw [List.map_eq_nil_iff] at this
    rw [this] at h5
    simpa using h5.symm
  have hm2 : c1 ≤ 9223372036854775807 := by simp only [maxLen] at hm1; omega
  rw [hr]
  clear hr HO1 HO2 HG1 HG2 hm1
  generalize w2.alloc (.cells #[.slice p2 ni c2, .bool false, .bool false] 56) = W0 at *
  go_cut [7, 9] from 10 to 64 (fun sv wv wc => GetMid w r big inp sv wv wc)
  case first =>
    have HIN : Hid (LInv w r big steps inp (.slice p1 nl c1) 0 (.slice none 0 0) [] inp W0) := Lib.hid ⟨HSX.out, HGW.out, hwr, HOW.out, WantR.nil _ _ _, Runs.nil _, Nat.zero_le _⟩
    clear HSX HGW HOW
    go_wp2_with fail
    go_loopw [7, 9, 40] (fun sv wv i wr => ∃ (j : Nat) (gs : List G) (xs : List Int), sv = .slice p1 nl c1 ∧ i = .int .i64 j ∧ LInv w r big steps inp (.slice p1 nl c1) j wv gs xs wr) (fun _ _ i _ => ((nl : Int) - intOf i).toNat)
    case atStart => exact ⟨0, [], inp, rfl, rfl, HIN.out⟩
    case round =>
      clear HIN
      obtain ⟨j, gs, xs, rfl, rfl, hinv⟩ := hrel
      have hjl := hinv.hj
      rw [HSTL.out] at hjl
      have hrl := hinv.sx.lt
      have hgl : gs.length = j := by have := hinv.pre.len; rw [List.length_take, HSTL.out] at this; omega
      by_cases e : j < nl
      · have hjs : j < steps.length := by rw [HSTL.out]; exact e
        obtain ⟨p1', c1', hpe, _, _, hcc⟩ := OwnS.rd hinv.st
        obtain ⟨b, o, hpb, hc⟩ := hcc (by omega)
        simp only [Value.slice.injEq] at hpe
        obtain ⟨rfl, hx1, hx2⟩ := hpe
        clear hx1 hx2
        obtain rfl := hpb
        obtain ⟨k0, k1, k2, k3⟩ := hc j hjs
        have hxa := HASK.out steps[j] (List.getElem_mem hjs)
        have htk : steps.take (j + 1) = steps.take j ++ [steps[j]] := List.take_succ_eq_append_getElem hjs
        have hdr : steps = steps.take j ++ steps[j] :: steps.drop (j + 1) := by
          rw [← List.drop_eq_getElem_cons hjs, List.take_append_drop]
        generalize steps[j] = x at *
        have HSR := fun W hW => Lib.hid (sessionRead (r := r) (big := big) (xs := xs) (w := W) hW x hxa)
        unfold St.val at HSR
        have HSL := fun W => Lib.hid (run_cutRH Tryd.underlying29 stInfo b o nl c1 j e hc1 W)
        have HINV := Lib.hid hinv
        have HTK := Lib.hid htk
        have HDR := Lib.hid hdr
        have HGL := Lib.hid hgl
        clear hc hcc hinv htk hdr hxa hgl
        go_wp2_with fail
        go_must (refine (HSR _ (HINV.out.sx.gr ((Gr.refl wr).alloc _))).out.mono ?_)
        rintro e w5 ⟨g, dv, ov, q, t, o', rfl, hd, ho, hdr, hor, hoff, hs5, hf5, hst⟩
        have hwt := (HINV.out.wt.gr ((Gr.refl wr).alloc (.cells #[.int .i64 x.k, .int .i64 x.sz, .bool x.be, .bool x.co] 28)) hrl).fl hf5
        have hst5 := OwnS.fl (OwnR.gr HINV.out.st ((Gr.refl wr).alloc (.cells #[.int .i64 x.k, .int .i64 x.sz, .bool x.be, .bool x.co] 28))) (HINV.out.sx.gr ((Gr.refl wr).alloc _)) hf5
        have hg5 := hf5.fx.gr (HINV.out.gr.trans ((Gr.refl wr).alloc (.cells #[.int .i64 x.k, .int .i64 x.sz, .bool x.be, .bool x.co] 28))) hwr
        have hfa : ∀ b, u9.ownBlock = some b → OffV b dv ∧ OffV b ov := fun b hb => hoff b (Nat.lt_of_lt_of_le (HINV.out.wt.off b hb).2.1 (((Gr.refl wr).alloc _).size)) ((HINV.out.wt.off b hb).2.2.gr ((Gr.refl wr).alloc _) hrl)
        have FD := Lib.hid (show Far w5 r u9 g.d dv from ⟨hd, hdr, fun b hb _ => (hfa b hb).1⟩)
        have FO := Lib.hid (show Far w5 r u9 g.o ov from ⟨ho, hor, fun b hb _ => (hfa b hb).2⟩)
        have c2 := hs5.c2
        have hl5 := hs5.lt
        have HS5 := Lib.hid hs5
        have HWT := Lib.hid hwt
        have HST5 := Lib.hid hst5
        have HG5 := Lib.hid hg5
        have HSTR := Lib.hid hst
        obtain ⟨pd, cd, rfl, _⟩ := id hd
        obtain ⟨po, co, rfl, _⟩ := id ho
        clear hd ho hdr hor hoff hs5 hf5 hst hwt hst5 hg5 hfa
        cases o'
        · obtain ⟨ps, hpl, how, hfar⟩ := HWT.out.own
          have HOWN := Lib.hid how
          have HFAR := Lib.hid hfar
          have HPL := Lib.hid hpl
          have hzl : (List.zipWith (fun g (p : Value × Value) => G.cs g p.1 p.2) gs ps).length ≤ 30 := by rw [List.length_zipWith, hpl, Nat.min_self, HGL.out]; omega
          have HZL := Lib.hid hzl
          have hwz : w.heap.size ≤ w5.heap.size := HG5.out.size
          have HGO := Lib.hid (g_one g pd po g.d.length cd g.o.length co)
          have HZ := Lib.hid (show [g.cs (.slice pd g.d.length cd) (.slice po g.o.length co)].flatten = [.bool g.ok, .slice pd g.d.length cd, .slice po g.o.length co, .int .i64 g.n, .string g.t] by simp [G.cs])
          clear how hfar hpl hzl
          have hcs : (t = false ∧ g.ok = true ∧ Hid (Does big x xs (some (g, q)))) ∨ (t = true ∧ g.ok = false ∧ Hid (g = G.no ∧ Does big x xs none)) := by
            rcases HSTR.out with h | ⟨_, h1, h2, h3⟩ | ⟨_, h1, h2, h3⟩
            · cases h
            · exact .inl ⟨h1, h2, Lib.hid h3⟩
            · exact .inr ⟨h1, by rw [h2]; rfl, Lib.hid ⟨h2, h3⟩⟩
          rcases hcs with ⟨rfl, hok, HD⟩ | ⟨rfl, hok, HD⟩
          · go_wp2_with (first
              | (at_builtin; go_must (refine wpList_append_rowB rfl _ _ rfl Tryd.underlying23 gotInfo rfl (by decide) (by decide) (B := w.heap.size) rfl (OwnR.gr HOWN.out (((Gr.refl w5).alloc _).alloc _)) [g.cs (.slice pd g.d.length cd) (.slice po g.o.length co)] HGO.out ⟨w5.heap.size + 1, 0, none⟩ 1 1 rfl rfl (cells_new (by first | rfl | simp) (by rw [HZ.out, hok])) (by have := HZL.out; omega) (by simp; omega) ?_); intro v6 w6 ho6 hg6 hb6; have HO6 := Lib.hid ho6; have HG6 := Lib.hid hg6; have HB6 := Lib.hid hb6; have hbk := (show w6.heap[w5.heap.size]? = _ from (hg6.block w5.heap.size (by simp; omega) (fun e => by have := (HWT.out.off _ e.symm).2.1; omega)).trans (((Gr.refl _).alloc _).heap (heap_alloc_new w5 _))); have kb := (blk_cell hbk 0).trans rfl; clear ho6 hg6 hb6 hbk))
            have G2 := ((Gr.refl w5).alloc (.cells #[.bool true, .slice pd g.d.length cd, .slice po g.o.length co, .int .i64 g.n, .string g.t] 31)).alloc (.cells #[.bool true, .slice pd g.d.length cd, .slice po g.o.length co, .int .i64 g.n, .string g.t] 31)
            have HN := Lib.hid (WantR.grow (HWT.out.gr G2 hl5) (HS5.out.gr G2) g (.slice pd g.d.length cd) (.slice po g.o.length co) ps HPL.out (fun i x p a b => ⟨(HFAR.out i x p a b).1.gr G2, (HFAR.out i x p a b).2.gr G2⟩) HO6.out HG6.out HB6.out (FD.out.gr G2) (FO.out.gr G2))
            have HST6 := Lib.hid (show OwnS w.heap.size w6 _ steps from OwnR.other (OwnR.gr HST5.out G2) (OwnR.gr HOWN.out G2) HG6.out (by decide))
            have HGW6 := Lib.hid (show Gr w w6 from Gr.trans2 (HG5.out.trans G2) (OwnR.below (OwnR.gr HOWN.out G2) HG6.out (by simp; omega)) (Nat.le_refl _))
            clear G2
            go_roundw
            case rel => exact ⟨j + 1, gs ++ [g], q, rfl, by go_num, ⟨HN.out.2, HGW6.out, hwr, HST6.out, HN.out.1, by rw [HTK.out]; exact HINV.out.pre.snoc HD.out hok, hjs⟩⟩
            case measure => simp [intOf]; omega
          · go_wp2_with (first
              | (at_builtin; go_must (refine wpList_append_rowB rfl _ _ rfl Tryd.underlying23 gotInfo rfl (by decide) (by decide) (B := w.heap.size) rfl (OwnR.gr HOWN.out (((Gr.refl w5).alloc _).alloc _)) [g.cs (.slice pd g.d.length cd) (.slice po g.o.length co)] HGO.out ⟨w5.heap.size + 1, 0, none⟩ 1 1 rfl rfl (cells_new (by first | rfl | simp) (by rw [HZ.out, hok])) (by have := HZL.out; omega) (by simp; omega) ?_); intro v6 w6 ho6 hg6 hb6; have HO6 := Lib.hid ho6; have HG6 := Lib.hid hg6; have HB6 := Lib.hid hb6; have hbk := (show w6.heap[w5.heap.size]? = _ from (hg6.block w5.heap.size (by simp; omega) (fun e => by have := (HWT.out.off _ e.symm).2.1; omega)).trans (((Gr.refl _).alloc _).heap (heap_alloc_new w5 _))); have kb := (blk_cell hbk 0).trans rfl; clear ho6 hg6 hb6 hbk))
            have G2 := ((Gr.refl w5).alloc (.cells #[.bool false, .slice pd g.d.length cd, .slice po g.o.length co, .int .i64 g.n, .string g.t] 31)).alloc (.cells #[.bool false, .slice pd g.d.length cd, .slice po g.o.length co, .int .i64 g.n, .string g.t] 31)
            have HN := Lib.hid (WantR.grow (HWT.out.gr G2 hl5) (HS5.out.gr G2) g (.slice pd g.d.length cd) (.slice po g.o.length co) ps HPL.out (fun i x p a b => ⟨(HFAR.out i x p a b).1.gr G2, (HFAR.out i x p a b).2.gr G2⟩) HO6.out HG6.out HB6.out (FD.out.gr G2) (FO.out.gr G2))
            have HST6 := Lib.hid (show OwnS w.heap.size w6 _ steps from OwnR.other (OwnR.gr HST5.out G2) (OwnR.gr HOWN.out G2) HG6.out (by decide))
            have HGW6 := Lib.hid (show Gr w w6 from Gr.trans2 (HG5.out.trans G2) (OwnR.below (OwnR.gr HOWN.out G2) HG6.out (by simp; omega)) (Nat.le_refl _))
            clear G2
            go_meet
            refine ⟨steps, gs ++ [g], none, q, true, false, HST6.out.rd, by rw [HSTL.out]; exact h4', HN.out.1.rdG, ?_, HN.out.2, HGW6.out, fun h => by cases h⟩
            have hp := HINV.out.pre.fell (l2 := steps.drop (j + 1)) HD.out.2
            rw [← HDR.out] at hp
            rw [HD.out.1]
            exact hp
        · have HRT := Lib.hid (RdSt.take (HST5.out.rd) j (Nat.le_of_lt hjs) rfl)
          have hsl := fun W => (HSL W).out
          go_wp2_with fail
          go_meet
          exact ⟨steps.take j, gs, some xs, q, t, true, HRT.out.gr ((Gr.refl w5).alloc _), by rw [List.length_take]; omega, (HWT.out.gr ((Gr.refl w5).alloc _) hl5).rdG, HINV.out.pre, HS5.out.gr ((Gr.refl w5).alloc _), HG5.out.alloc _, fun _ h => by cases h⟩
      · obtain rfl : nl = j := by omega
        have HINV := Lib.hid hinv
        clear hinv
        go_wp2_with fail
        go_meet
        refine ⟨steps, gs, some xs, xs, false, false, HINV.out.st.rd, by rw [HSTL.out]; exact h4', HINV.out.wt.rdG, ?_, HINV.out.sx, HINV.out.gr, fun _ _ => rfl⟩
        have hp := HINV.out.pre
        rw [List.take_of_length_le (by rw [HSTL.out]; exact Nat.le_refl _)] at hp
        exact hp
  case rest =>
    clear HSX HGW HOW HAS HASK HSTL hpk
    obtain ⟨steps2, out, oo, xs, t, op, hst, hsl, hwg, hrun, hsx, hgr, hrest⟩ := hcut
    have HSG := fun W a1 a2 a3 a4 a5 a6 => Lib.hid (sessionGet a1 u7 inp steps2 big out oo E W a2 a3 (by rw [HNI.out]; omega) a4 a5 a6)
    have HST := Lib.hid hst
    have HWG := Lib.hid hwg
    have HRUN := Lib.hid hrun
    have HSX := Lib.hid hsx
    have HGR := Lib.hid hgr
    have HRS := Lib.hid hrest
    have HEQ := fun W v u h k => Lib.hid (equalFunc v u out W h k)
    obtain ⟨p7, c7, rfl, hc7, hm7, hx7⟩ := id hst
    obtain ⟨p9, c9, rfl, hc9, hm9, hx9⟩ := id hwg
    clear hst hwg hrun hsx hgr hrest hm7 hm9 hc9 hx7 hx9
    generalize out.length = n9 at *
    cases t <;> cases op
    all_goals
      go_wp2_with (first
        | (go_at_call 16; go_must (refine (HCL _ (HI.out.gr HGR.out)).out.mono ?_); rintro e w6 ⟨u6, rfl, ho6, hg6⟩; have HO6 := Lib.hid ho6.rd; have HG6 := Lib.hid hg6; clear ho6 hg6)
        | (go_at_call 13; go_must (refine (HSG _ _ (HE.out.gr (HGR.out.trans HG6.out)) HO6.out (HST.out.gr HG6.out) (by omega) HRUN.out).out.mono ?_); rintro e w7 ⟨gv, lv, left, rfl, hog, hol, hlf, hg7⟩; have HOG := Lib.hid hog.rdG; have HOL := Lib.hid hol.rd; have HLF := Lib.hid hlf; have HG67 := Lib.hid (HG6.out.trans hg7); have HG7 := Lib.hid ((HGR.out.trans HG6.out).trans hg7); obtain ⟨p8, n8, c8, rfl⟩ := hog.shape; obtain ⟨pl8, cl8, rfl, _⟩ := id hol.rd; clear hog hol hlf hg7)
        | (go_at_call 29; go_must (refine (HEQ _ _ _ HOG.out (HWG.out.gr HG67.out)).out.mono ?_); rintro e w8 ⟨rfl, hg8⟩; have HG8 := Lib.hid (HG7.out.trans hg8); have HO8 := Lib.hid (HOL.out.gr hg8); have hs8 := HSX.out.gr (HG67.out.trans hg8); have c1 := hs8.c1; have c2 := hs8.c2; obtain ⟨v8, b1, b2, _⟩ := hs8; have c0 : w8.cell? ⟨r, 0, none⟩ = some v8 := (blk_cell b1 0).trans rfl; have HV := Lib.hid b2; obtain ⟨pv, cv, rfl, _⟩ := id b2; clear hg8 b1 b2)
        | (go_at_call 17; go_must (refine (equal_same _ _ xs _ (by have h := HO8.out; rw [HLF.out xs (HRS.out (by first | rfl | trivial) (by first | rfl | trivial))] at h ⊢; exact h) HV.out).mono ?_); rintro e w8' ⟨rfl, rfl⟩)
        | (go_at_call 14; go_must (refine (HLV _ (HE.out.gr HG8.out)).out.mono ?_); rintro e w9 ⟨rfl, hg9⟩))
      go_ret
      exact ⟨rfl, HG8.out.trans hg9⟩

theorem RdAk.small {w : World} {v : Value} {l : List Ak} (h : RdAk w v l) : ∀ x ∈ l, x.z < 256 := by
  intro x hx
  obtain ⟨i, hi, rfl⟩ := List.mem_iff_getElem.1 hx
  obtain ⟨p, c, rfl, _, _, h3⟩ := h
  obtain ⟨b, o, _, hc⟩ := h3 (by omega)
  exact (hc i hi).2.2
theorem lawGet_z (vi vl : Value) (inp : List Int) (l : List Ak) (big : Bool) (w : World) (hi : Rd w vi inp) (hl : RdAk w vl l) (hE : ∃ E, EndE w E) :
    Calls Tryd.prog 10 #[vi, vl, .bool big] w (RetT w) := by
  obtain ⟨E, hE⟩ := hE
  exact lawGet vi vl inp l big E w hi hl hl.small hE
end Go.Proofs.YtgkccbfepjgjoaaDoor
