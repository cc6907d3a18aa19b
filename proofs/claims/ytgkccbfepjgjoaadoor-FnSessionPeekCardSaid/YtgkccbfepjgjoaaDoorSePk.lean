/- FnSessionPeek: the walk. -/
import Derived.Test.YtgkccbfepjgjoaaDoorSePw
import Derived.Deep.DeepCutAuto
import Derived.Deep.CutBlock
import Derived.Deep.RegionHeld3
namespace Go.Proofs.YtgkccbfepjgjoaaDoor
open Go Go.RowKit

/-- In the loop. -/
structure PInv (w : World) (r : Nat) (big : Bool) (inp : List Int) (n0 : Nat) (s0 : List Int) (exs : List (Nat × List Value × TypeId)) (nl : Nat) (wv sv pv : Value) (j : Nat) (ts : List Tr) (xs : List Int) (wr : World) : Prop where
  b : Bun w wr r pv wv sv (ts.map Tr.x) (pkSt n0 :: wSt ts) (s0 :: ts.map Tr.s) xs exs
  hj : j ≤ nl
  tl : ts.length ≤ j
  r1 : Runs big (ts.map Tr.x) inp (ts.map Tr.g) (some xs)
  r2 : Runs big (pkSt n0 :: wSt ts) inp (pkG s0 :: wG ts) (some xs)
/-- Behind the loop. -/
def PkMid (w : World) (big : Bool) (inp : List Int) (n0 : Nat) (s0 : List Int) (wv sv pv : Value) (wc : World) : Prop :=
  ∃ (ts : List Tr) (xs : List Int), OwnS w.heap.size wc pv (ts.map Tr.x) ∧ OwnS w.heap.size wc wv (pkSt n0 :: wSt ts) ∧ ShR w wc sv (s0 :: ts.map Tr.s) ∧ Gr w wc ∧ ts.length ≤ 30 ∧
    Runs big (ts.map Tr.x) inp (ts.map Tr.g) (some xs) ∧ Runs big (pkSt n0 :: wSt ts) inp (pkG s0 :: wG ts) (some xs)
theorem Bun.next {w cur : World} {r n0 : Nat} {pv wv sv : Value} {s0 xs : List Int} {ex exs : List (Nat × List Value × TypeId)} (ts : List Tr) (t : Tr)
    (h : Bun w cur r pv wv sv (ts.map Tr.x ++ [t.x]) (pkSt n0 :: wSt ts ++ [pkSt t.n, t.x]) (s0 :: ts.map Tr.s ++ [t.s]) xs ex) (hs : ∀ z ∈ exs, z ∈ ex) :
    Bun w cur r pv wv sv ((ts ++ [t]).map Tr.x) (pkSt n0 :: wSt (ts ++ [t])) (s0 :: (ts ++ [t]).map Tr.s) xs exs := by
  rw [List.map_append, List.map_append, wSt_snoc]
  exact h.sub hs
theorem hlen_of {xs sh : List Int} {n : Nat} (h : xs.take n = sh) (hn : n ≤ xs.length) : sh.length = n := by rw [← h, List.length_take]; omega

set_option maxRecDepth 100000 in
set_option maxHeartbeats 40000000 in
theorem lawPeek (vi vl : Value) (inp : List Int) (l : List Ak) (big : Bool) (E : Value) (w : World) (hi : Rd w vi inp) (hl : RdAk w vl l) (hz : ∀ x ∈ l, x.z < 256) (hE : EndE w E) :
    Calls Tryd.prog 8 #[vi, vl, .bool big] w (RetT w) := by
  have HI := Lib.hid hi
  have HL := Lib.hid hl
  have HE := Lib.hid hE
  obtain ⟨p, c, rfl, _⟩ := hi
  obtain ⟨pl, cl, rfl, _⟩ := hl
  obtain ⟨ni, hni⟩ : ∃ n, inp.length = n := ⟨_, rfl⟩
  obtain ⟨nl, hnl⟩ : ∃ n, l.length = n := ⟨_, rfl⟩
  have HNI := Lib.hid hni
  have HNL := Lib.hid hnl
  rw [hni] at HI ⊢
  rw [hnl] at HL ⊢
  have HLV := fun W (h : EndE W E) => Lib.hid (sessionLive E W h)
  clear hni hnl hE
  by_cases h1 : 2147483647 < ni
  · go_enter Tryd.func8, Tryd.ntmps8
    go_wp2
    go_ret
    exact ⟨rfl, Gr.refl _⟩
  by_cases h2 : 2147483647 < nl
  · have h1' : ni ≤ 2147483647 := by omega
    go_enter Tryd.func8, Tryd.ntmps8
    go_wp2
    go_ret
    exact ⟨rfl, Gr.refl _⟩
  by_cases h3 : 1000 < ni
  · have h1' : ni ≤ 2147483647 := by omega
    have h2' : nl ≤ 2147483647 := by omega
    clear h1 h2
    go_enter Tryd.func8, Tryd.ntmps8
    go_wp2_with (first
      | (go_at_call 14; go_must (refine (HLV _ HE.out).out.mono ?_); rintro e w2 ⟨rfl, hg2⟩))
    go_ret
    exact ⟨rfl, hg2⟩
  by_cases h4 : 30 < nl
  · have h3' : ni ≤ 1000 := by omega
    have h2' : nl ≤ 2147483647 := by omega
    clear h1 h2 h3
    go_enter Tryd.func8, Tryd.ntmps8
    go_wp2_with (first
      | (go_at_call 14; go_must (refine (HLV _ HE.out).out.mono ?_); rintro e w2 ⟨rfl, hg2⟩))
    go_ret
    exact ⟨rfl, hg2⟩
  have h3' : ni ≤ 1000 := by omega
  have h4' : nl ≤ 30 := by omega
  have HAS := fun W (h : RdAk W (.slice pl nl cl) l) => Lib.hid (sessionAsks _ l W h (by rw [HNL.out]; exact h4'))
  have HCL := fun W (h : Rd W (.slice p ni c) inp) => Lib.hid (clone _ inp W h (by rw [HNI.out]; omega))
  have hask : ∀ x ∈ l.map askOf, x.Ask := fun x hx => by
    obtain ⟨y, hy, rfl⟩ := List.mem_map.1 hx
    exact askOf_ask y (hz y hy)
  have HASK := Lib.hid hask
  have HSTL := Lib.hid (show (l.map askOf).length = nl by rw [List.length_map, HNL.out])
  generalize l.map askOf = steps at *
  obtain ⟨n0, hn0⟩ : ∃ n0, min ni 9 = n0 := ⟨_, rfl⟩
  obtain ⟨u0, hu0, _, hcut0⟩ := cutH HI.out n0 (by rw [HNI.out]; omega)
  obtain ⟨s0, hs0⟩ : ∃ s0, inp.take n0 = s0 := ⟨_, rfl⟩
  rw [hs0] at hu0
  have HU0 := Lib.hid hu0
  obtain ⟨p0, c0, rfl, _⟩ := id hu0
  have hmin : min (ni : Int) 9 = (n0 : Int) := by omega
  have HS0 := Lib.hid hs0
  have HN0 := Lib.hid hn0
  have hn09 : n0 ≤ 9 := by omega
  obtain ⟨k0, hk0⟩ : ∃ k0, s0.length = k0 := ⟨_, rfl⟩
  rw [hk0] at hcut0 HU0
  clear h1 h2 h3 h4 hz hask hu0 hs0 hn0 hk0
  go_enter Tryd.func8, Tryd.ntmps8
  go_upto_block 0 with (first
    | (go_at_call 16; go_must (refine (HCL _ HI.out).out.mono ?_); rintro e w2 ⟨u2, rfl, ho2, hg2⟩; obtain ⟨p2, c2, rfl, _⟩ := id ho2.rd; rw [HNI.out] at ho2 ⊢; have HO2 := Lib.hid ho2; have HG2 := Lib.hid hg2; clear ho2 hg2)
    | (go_at_call 24; go_must (refine (HAS _ (HL.out.gr (((HG2.out.alloc _).alloc _).alloc _))).out.mono ?_); rintro e w1 ⟨u1, rfl, ho1, hg1⟩; have HO1 := Lib.hid ho1; have HG1 := Lib.hid hg1; obtain ⟨p1, c1, rfl, hc1, hm1, _⟩ := OwnR.shape ho1; rw [List.length_map, HSTL.out] at HO1 hc1 ⊢; clear ho1 hg1))
  -- LOOP
  obtain ⟨r, hr⟩ : ∃ r, w2.heap.size = r := ⟨_, rfl⟩
  have hwr : w.heap.size ≤ r := by rw [← hr]; exact HG2.out.size
  have hm2 : c1 ≤ 9223372036854775807 := by simp only [maxLen] at hm1; omega
  rw [hr]
  obtain ⟨exs, hex1, hex2⟩ := OwnS.exs HO1.out
  have hB0 : Hid (Bun w w1 r (.slice none 0 0) (.slice (some ⟨r + 1, 0, none⟩) 1 1) (.slice (some ⟨r + 1 + 1, 0, none⟩) 1 1) [] [pkSt n0] [s0] inp exs) := by
    subst hr
    have f0 := heap_alloc_new w2 (.cells #[.slice p2 ni c2, .bool false, .bool false] 56)
    have hs0 : Sx (w2.alloc (.cells #[.slice p2 ni c2, .bool false, .bool false] 56)) w2.heap.size inp false false := ⟨_, f0, HO2.out.rd.gr ((Gr.refl w2).alloc _), HO2.out.lo.off (Nat.le_refl _), (fun a n c e => by have := HO2.out.lo a n c e; simp; omega), by rw [HNI.out]; omega⟩
    have g1 := (Gr.refl (w2.alloc (.cells #[.slice p2 ni c2, .bool false, .bool false] 56))).alloc (.cells #[.int .i64 9, .int .i64 n0, .bool false, .bool false] 28)
    have f1 := heap_new_at (w2.alloc (.cells #[.slice p2 ni c2, .bool false, .bool false] 56)) (.cells #[.int .i64 9, .int .i64 n0, .bool false, .bool false] 28) (show w2.heap.size + 1 = _ by simp)
    have f2 := heap_new_at ((w2.alloc (.cells #[.slice p2 ni c2, .bool false, .bool false] 56)).alloc (.cells #[.int .i64 9, .int .i64 n0, .bool false, .bool false] 28)) (.cells #[.slice p0 k0 c0] 24) (show w2.heap.size + 1 + 1 = _ by simp)
    have g2 := ((Gr.refl _).alloc (.cells #[.slice p0 k0 c0] 24)).trans HG1.out
    have hsw := hs0.gr (g1.trans g2)
    refine Lib.hid ⟨OwnR.nil _ _ _ _, OwnR.fresh (g2.heap f1) (by omega) _ 1 rfl (by simp [St.cs]) (by simp [St.cs, pkSt]) (by simp [maxLen]), ⟨[.slice p0 k0 c0], rfl, OwnR.fresh (HG1.out.heap f2) (by omega) _ 1 rfl (by simp) (by simp) (by simp [maxLen]), fun i l u a b => ?_⟩, (fun b hb => by cases hb), (((HG2.out.alloc _).alloc _).alloc _).trans HG1.out, hsw, (fun b hb => by cases hb), fun b hb => ?_, fun b hb => ?_, fun z hz => ?_⟩
    · match i, a, b with
      | 0, a, b => simp at a b; subst a; subst b; exact .inr HU0.out
      | i + 1, a, b => simp at a
    · injection hb with hb; subst hb; exact (hs0.offX _ (by simp)).gr (g1.trans g2) hs0.lt
    · injection hb with hb; subst hb; exact (hs0.offX _ (by simp)).gr (g1.trans g2) hs0.lt
    · obtain ⟨z1, z2, _⟩ := hex1 z hz
      simp at z2
      exact ⟨z1, by simp [Value.ownBlock], (by simp [Value.ownBlock]; omega), (by simp [Value.ownBlock]; omega)⟩
  have HEX := Lib.hid hex2
  have hexT : Hid (∀ z ∈ exs, z.2.2 = 28) := Lib.hid fun z hz => (hex1 z hz).2.2
  have hPK0 : Hid (Does big (pkSt n0) inp (some (pkG s0, inp))) := Lib.hid (by rw [← HS0.out]; exact peek_does n0 (by rw [HNI.out]; omega) (by rw [HNI.out]; omega))
  clear hr HO1 HO2 HG1 HG2 hm1 hex1 hex2 HAS
  go_cut [8, 9, 10] from 11 to 103 (fun wv sv pv wc => PkMid w big inp n0 s0 wv sv pv wc)
  case first =>
    go_wp2_with fail
    go_loopw [8, 9, 10, 56] (fun wv sv pv i wr => ∃ (j : Nat) (ts : List Tr) (xs : List Int), i = .int .i64 j ∧ PInv w r big inp n0 s0 exs nl wv sv pv j ts xs wr) (fun _ _ _ i _ => ((nl : Int) - intOf i).toNat)
    case atStart => exact ⟨0, [], inp, rfl, ⟨hB0.out, Nat.zero_le _, Nat.zero_le _, Runs.nil _, Runs.cons hPK0.out rfl (Runs.nil _)⟩⟩
    case round =>
      clear hB0
      obtain ⟨j, ts, xs, rfl, hinv⟩ := hrel
      have hjl := hinv.hj
      have hrl := hinv.b.sx.lt
      by_cases e : j < nl
      · have hjs : j < steps.length := by rw [HSTL.out]; exact e
        obtain ⟨p1', c1', hpe, _, _, hcc⟩ := OwnS.rd (HEX.out _ (fun z hz => (hinv.b.e z hz).1))
        obtain ⟨b, o, hpb, hc⟩ := hcc (by rw [HSTL.out]; omega)
        simp only [Value.slice.injEq] at hpe
        obtain ⟨rfl, hx1, hx2⟩ := hpe
        clear hx1 hx2
        obtain rfl := hpb
        obtain ⟨k0', k1', k2', k3'⟩ := hc j hjs
        have hxa := HASK.out steps[j] (List.getElem_mem hjs)
        generalize steps[j] = x at *
        obtain ⟨xk, xsz, be, co⟩ := x
        obtain ⟨m, rfl⟩ : ∃ m : Nat, xsz = (m : Int) := ⟨xsz.toNat, by have := hxa.2.2.1; simp only at this; omega⟩
        have HSR := fun W hW => Lib.hid (sessionRead (r := r) (big := big) (xs := xs) (w := W) hW ⟨xk, (m : Nat), be, co⟩ hxa)
        unfold St.val at HSR
        simp only at HSR k0' k1' k2' k3'
        have HTL := Lib.hid (show ts.length ≤ 30 by have := hinv.tl; omega)
        have htl := hinv.tl
        have hR1 := hinv.r1
        have hR2 := hinv.r2
        have hxl := hinv.b.sx.len2
        have HINV := Lib.hid hinv.b
        clear hc hcc hinv hxa
        -- the box of the step, and what is left
        obtain ⟨vq, q1, q2, _⟩ := id HINV.out.sx
        obtain ⟨pq, cq, rfl, _⟩ := id q2
        have z0 : wr.cell? ⟨r, 0, none⟩ = some (.slice pq xs.length cq) := (blk_cell q1 0).trans rfl
        have HV := Lib.hid q2
        obtain ⟨n, hn⟩ : ∃ n, min m xs.length = n := ⟨_, rfl⟩
        obtain ⟨us, hus, _, hcut⟩ := cutH q2 n (by omega)
        obtain ⟨sh, hsh⟩ : ∃ sh, xs.take n = sh := ⟨_, rfl⟩
        have hdp := peek_does (big := big) n (show n ≤ xs.length by omega) hxl
        rw [hsh] at hus hdp
        have HDP := Lib.hid hdp
        have HUSH := Lib.hid hus
        obtain ⟨ps', cs', rfl, _⟩ := id hus
        have hnl : n ≤ xs.length := by omega
        have hmin : min (m : Int) (xs.length : Int) = (n : Int) := by omega
        have hsl := hlen_of hsh hnl
        have HSHL := Lib.hid (show sh.length ≤ 140737488355328 by omega)
        generalize hlx : xs.length = lx at *
        clear q1 q2 hn hus hsh hdp hlx hsl
        generalize sh.length = nsh at hcut HUSH
        go_wp2_with fail
        have hB1 : Hid (Bun w (wr.alloc (.cells #[Value.int .i64 xk, .int .i64 (m : Nat), .bool be, .bool co] 28)) r u10 u8 u9 (ts.map Tr.x) (pkSt n0 :: wSt ts) (s0 :: ts.map Tr.s) xs ((wr.heap.size, [Value.int .i64 xk, .int .i64 (m : Nat), .bool be, .bool co], 28) :: exs)) := Lib.hid (HINV.out.new [Value.int .i64 xk, .int .i64 (m : Nat), .bool be, .bool co] 28)
        have hlt1 : r < wr.heap.size + 1 := by omega
        go_region_held3 (fun w' => w'.cell? ⟨wr.heap.size, 1, none⟩ = some (.int .i64 (m : Nat)) ∧ w'.cell? ⟨r, 0, none⟩ = some (.slice pq lx cq)) (go_keep) (fail)
        go_wp2_with fail
        go_must (refine (clone _ sh _ (HUSH.out.gr ((Gr.refl wr).alloc _).drew) HSHL.out).mono ?_)
        rintro e w4 ⟨u4, rfl, ho4, hg4⟩
        have ho4' := ho4.mono (show w.heap.size ≤ _ from (HINV.out.gr.trans ((Gr.refl wr).alloc _).drew).size)
        obtain ⟨exU, hu1, hu2⟩ := ho4'.exs
        have HB4 := Lib.hid (((hB1.out.drew).gr' hg4).more hu1)
        have hU8 : Hid (∀ z ∈ exU, z.2.2 = 5) := Lib.hid fun z hz => (hu1 z hz).2
        have HEU := Lib.hid hu2
        obtain ⟨pz, nz, cz, rfl⟩ : ∃ p n c, u4 = Value.slice p n c := by obtain ⟨_, _, e, _⟩ := ho4.rd; exact ⟨_, _, _, e⟩
        have hl4 := HB4.out.sx.lt
        obtain ⟨x0, x1, x2, x3⟩ := HB4.out.four (K := wr.heap.size) (k := xk) (sz := (m : Nat)) (be := be) (co := co) (by simp)
        clear ho4 ho4' hg4 hu1 hu2 z0 hB1 HINV HV
        go_wp2_with fail
        go_must (refine (HSR _ HB4.out.sx).out.mono ?_)
        rintro e w5 ⟨g, dv, ov, q, t, o', rfl, hd, ho, hdr, hor, hoff, hs5, hf5, hst⟩
        have c2 := hs5.c2
        have hl5 := hs5.lt
        have HX5 := Lib.hid (HB4.out.exit hwr hf5 hs5)
        have HSTR := Lib.hid hst
        have HS5 := Lib.hid hs5
        have HF5 := Lib.hid hf5
        obtain ⟨pd, cd, rfl, _⟩ := id hd
        obtain ⟨po, co', rfl, _⟩ := id ho
        have HR1 := Lib.hid hR1
        have HR2 := Lib.hid hR2
        clear hd ho hdr hor hoff hs5 hf5 hst x0 x1 x2 x3 HSR hR1 hR2
        have hend : Hid (∀ W, Gr w5 W → PkMid w big inp n0 s0 u8 u9 u10 W) := Lib.hid fun W g => ⟨ts, xs, OwnR.gr HX5.out.1 g, OwnR.gr HX5.out.2.1 g, HX5.out.2.2.1.gr g, HX5.out.2.2.2.trans g, HTL.out, HR1.out, HR2.out⟩
        cases o'
        · have hcs : (t = false ∧ g.ok = true ∧ Hid (Does big ⟨xk, (m : Nat), be, co⟩ xs (some (g, q)))) ∨ (t = true ∧ g.ok = false) := by
            rcases HSTR.out with h | ⟨_, h1, h2, h3⟩ | ⟨_, h1, h2, h3⟩
            · cases h
            · exact .inl ⟨h1, h2, Lib.hid h3⟩
            · exact .inr ⟨h1, by rw [h2]; rfl⟩
          rcases hcs with ⟨rfl, hok, HD⟩ | ⟨rfl, hok⟩
          · have HB5 : Hid (Bun w (w5.alloc (.cells #[.bool true, .slice pd g.d.length cd, .slice po g.o.length co', .int .i64 g.n, .string g.t] 31)) r u10 u8 u9 (ts.map Tr.x) (pkSt n0 :: wSt ts) (s0 :: ts.map Tr.s) q (exU ++ (wr.heap.size, [Value.int .i64 xk, .int .i64 (m : Nat), .bool be, .bool co], 28) :: exs)) := Lib.hid ((HB4.out.fl hwr HF5.out HS5.out (fun z hz => by
              rcases List.mem_append.1 hz with hz | hz
              · rw [hU8.out z hz]; decide
              · rcases List.mem_cons.1 hz with rfl | hz
                · show 28 ≠ 56; decide
                · rw [hexT.out z hz]; decide)).gr' ((Gr.refl w5).alloc _))
            have HR1' := Lib.hid (show Runs big ((ts ++ [Tr.mk (St.mk xk (m : Nat) be co) g n sh]).map Tr.x) inp ((ts ++ [Tr.mk (St.mk xk (m : Nat) be co) g n sh]).map Tr.g) (some q) by rw [List.map_append, List.map_append]; exact HR1.out.snoc HD.out hok)
            have HR2' := Lib.hid (show Runs big (pkSt n0 :: wSt (ts ++ [Tr.mk (St.mk xk (m : Nat) be co) g n sh])) inp (pkG s0 :: wG (ts ++ [Tr.mk (St.mk xk (m : Nat) be co) g n sh])) (some q) by rw [wSt_snoc, wG_snoc]; exact HR2.out.app rfl (Runs.cons HDP.out rfl (Runs.cons HD.out hok (Runs.nil q))))
            clear HR1 HR2 HB4 HX5 hend HSTR HS5 HF5 hU8 HD HDP HUSH HSHL
            go_wp2_with fail
            generalize g.d.length = gd at *
            generalize g.o.length = go' at *
            generalize w5.alloc (.cells #[.bool true, .slice pd gd cd, .slice po go' co', .int .i64 g.n, .string g.t] 31) = X16 at *
            have HB := Lib.hid HB5.out.drew
            clear HB5
            generalize wr.heap.size = Kb at *
            refine wp_region_held_drew (S := fun w' => w'.cell? ⟨Kb, 0, none⟩ = some (.int .i64 xk) ∧ w'.cell? ⟨Kb, 1, none⟩ = some (.int .i64 (m : Nat)) ∧ w'.cell? ⟨Kb, 2, none⟩ = some (.bool be) ∧ w'.cell? ⟨Kb, 3, none⟩ = some (.bool co)) (by kernel_rfl) (HB.out.four (K := Kb) (k := xk) (sz := (m : Nat)) (be := be) (co := co) (by simp)) (fun hHeld => ?_)
            generalize hcc : X16.drew = c0 at *
            clear hcc
            refine wpAnyH_take (i := 0) (oi := { dst := some 88, op := Op.move (Operand.tmp 10), type := 29, pos := "sessions.go:361", after := #[], guard := none }) (v := ?_) rfl (by kernel_rfl) (by kernel_rfl) (by kernel_rfl) (fun _ _ _ h => h) (Or.inl ⟨by rfl, ?_⟩) (by assumption) ?_
            rotate_left
            · (intro w hSw; (try dsimp only at hSw); go_simp; try with_reducible rfl)
            try simp only [Act.put, List.setIfInBounds_toArray, List.set_cons_zero, List.set_cons_succ]
            refine wpAnyH_take (i := 1) (oi := { dst := some 89, op := Op.load 28 (Operand.tmp 12), type := 28, pos := "sessions.go:361", after := #[], guard := none }) (v := ?_) rfl (by kernel_rfl) (by kernel_rfl) (by kernel_rfl) (fun _ _ _ h => h) (Or.inl ⟨by rfl, ?_⟩) (by assumption) ?_
            rotate_left
            · (intro w hSw; (try dsimp only at hSw); go_simp; try with_reducible rfl)
            try simp only [Act.put, List.setIfInBounds_toArray, List.set_cons_zero, List.set_cons_succ]
            refine wpAnyH_take (i := 4) (oi := { dst := some 92, op := Op.move (Operand.tmp 8), type := 29, pos := "sessions.go:361", after := #[], guard := none }) (v := ?_) rfl (by kernel_rfl) (by kernel_rfl) (by kernel_rfl) (fun _ _ _ h => h) (Or.inl ⟨by rfl, ?_⟩) (by assumption) ?_
            rotate_left
            · (intro w hSw; (try dsimp only at hSw); go_simp; try with_reducible rfl)
            try simp only [Act.put, List.setIfInBounds_toArray, List.set_cons_zero, List.set_cons_succ]
            refine wpAnyH_take (i := 5) (oi := { dst := some 93, op := Op.move (Operand.tmp 13), type := 3, pos := "sessions.go:361", after := #[], guard := none }) (v := ?_) rfl (by kernel_rfl) (by kernel_rfl) (by kernel_rfl) (fun _ _ _ h => h) (Or.inl ⟨by rfl, ?_⟩) (by assumption) ?_
            rotate_left
            · (intro w hSw; (try dsimp only at hSw); go_simp; try with_reducible rfl)
            try simp only [Act.put, List.setIfInBounds_toArray, List.set_cons_zero, List.set_cons_succ]
            refine wpAnyH_take (i := 6) (oi := { dst := some 94, op := Op.build 28 #[(0, Operand.const (Value.int IntKind.i64 9)), (1, Operand.tmp 93)], type := 28, pos := "sessions.go:361", after := #[{ on := 5, ground := Ground.data }], guard := none }) (v := ?_) rfl (by kernel_rfl) (by kernel_rfl) (by kernel_rfl) (fun _ _ _ h => h) (Or.inl ⟨by rfl, ?_⟩) (by assumption) ?_
            rotate_left
            · (intro w hSw; (try dsimp only at hSw); go_simp; try with_reducible rfl)
            try simp only [Act.put, List.setIfInBounds_toArray, List.set_cons_zero, List.set_cons_succ]
            refine wpAnyH_take (i := 7) (oi := { dst := some 95, op := Op.load 28 (Operand.tmp 12), type := 28, pos := "sessions.go:361", after := #[], guard := none }) (v := ?_) rfl (by kernel_rfl) (by kernel_rfl) (by kernel_rfl) (fun _ _ _ h => h) (Or.inl ⟨by rfl, ?_⟩) (by assumption) ?_
            rotate_left
            · (intro w hSw; (try dsimp only at hSw); go_simp; try with_reducible rfl)
            try simp only [Act.put, List.setIfInBounds_toArray, List.set_cons_zero, List.set_cons_succ]
            refine wpAnyH_take (i := 10) (oi := { dst := some 98, op := Op.move (Operand.tmp 9), type := 43, pos := "sessions.go:361", after := #[], guard := none }) (v := ?_) rfl (by kernel_rfl) (by kernel_rfl) (by kernel_rfl) (fun _ _ _ h => h) (Or.inl ⟨by rfl, ?_⟩) (by assumption) ?_
            rotate_left
            · (intro w hSw; (try dsimp only at hSw); go_simp; try with_reducible rfl)
            try simp only [Act.put, List.setIfInBounds_toArray, List.set_cons_zero, List.set_cons_succ]
            refine wpAnyH_take (i := 11) (oi := { dst := some 99, op := Op.move (Operand.tmp 14), type := 24, pos := "sessions.go:361", after := #[], guard := none }) (v := ?_) rfl (by kernel_rfl) (by kernel_rfl) (by kernel_rfl) (fun _ _ _ h => h) (Or.inl ⟨by rfl, ?_⟩) (by assumption) ?_
            rotate_left
            · (intro w hSw; (try dsimp only at hSw); go_simp; try with_reducible rfl)
            try simp only [Act.put, List.setIfInBounds_toArray, List.set_cons_zero, List.set_cons_succ]
            refine wpAnyH_ready (rs := [2, 8, 12]) (by kernel_rfl) (by simp) ?_
            refine AllReadyH.cons (o := { dst := some 90, op := Op.buildSlice 29 1 #[(0, Operand.tmp 89)], type := 29, pos := "sessions.go:361", after := #[{ on := 1, ground := Ground.data }], guard := none }) rfl (fun K hK => ?_) ?_
            ·
              have hN : Hid (Bun w (c0.alloc (.cells #[Value.int .i64 xk, .int .i64 (m : Nat), .bool be, .bool co] 28)) r u10 u8 u9 (ts.map Tr.x) (pkSt n0 :: wSt ts) (s0 :: ts.map Tr.s) q ((c0.heap.size, [Value.int .i64 xk, .int .i64 (m : Nat), .bool be, .bool co], 28) :: exU ++ (Kb, [Value.int .i64 xk, .int .i64 (m : Nat), .bool be, .bool co], 28) :: exs)) := Lib.hid (HB.out.new [Value.int .i64 xk, .int .i64 (m : Nat), .bool be, .bool co] 28)
              clear HB
              have HB := hN
              clear hN
              go_simp
              generalize c0.heap.size = b2 at *
              generalize hcc : c0.alloc (.cells #[Value.int .i64 xk, .int .i64 (m : Nat), .bool be, .bool co] 28) = c1 at *
              clear hcc
              refine hK.out _ _ (HB.out.four (K := Kb) (k := xk) (sz := (m : Nat)) (be := be) (co := co) (by simp)) (fun hHeld => ?_)
              clear hK K
              try simp only [Act.put, List.setIfInBounds_toArray, List.set_cons_zero, List.set_cons_succ]
              refine wpAnyH_ready (rs := [3, 8, 12]) (by kernel_rfl) (by simp) ?_
              refine AllReadyH.cons (o := { dst := some 91, op := Op.call { callee := Callee.builtin Builtin.append, args := #[Operand.tmp 88, Operand.tmp 90], argTypes := #[29, 29] }, type := 29, pos := "sessions.go:361", after := #[{ on := 0, ground := Ground.data }, { on := 2, ground := Ground.data }], guard := none }) rfl (fun K hK => ?_) ?_
              ·
                refine wp_append_rowB _ _ (by rfl) Tryd.underlying29 stInfo rfl (by decide) (by decide) (by rfl) HB.out.p ([(St.mk xk (m : Nat) be co)].map St.cs) (st_all _) ⟨b2, 0, none⟩ 1 1 (by rfl) rfl (HB.out.cells (cs := [Value.int .i64 xk, .int .i64 (m : Nat), .bool be, .bool co]) (T := 28) (by simp) rfl) (by simp only [List.length_map, List.length_append, List.length_cons, List.length_nil, wSt_len]; have := HTL.out; omega) HB.out.gr.size ?_
                intro v3 c2 ho hg hb
                have hN := Lib.hid (HB.out.addP (ds := [(St.mk xk (m : Nat) be co)]) ho hg hb)
                clear ho hg hb HB
                have HB := hN
                clear hN
                refine hK.out _ _ (HB.out.four (K := Kb) (k := xk) (sz := (m : Nat)) (be := be) (co := co) (by simp)) (fun hHeld => ?_)
                clear hK K
                try simp only [Act.put, List.setIfInBounds_toArray, List.set_cons_zero, List.set_cons_succ]
                refine wpAnyH_ready (rs := [8, 12]) (by kernel_rfl) (by simp) ?_
                refine AllReadyH.cons (o := { dst := some 96, op := Op.buildSlice 29 2 #[(0, Operand.tmp 94), (1, Operand.tmp 95)], type := 29, pos := "sessions.go:361", after := #[{ on := 6, ground := Ground.data }, { on := 7, ground := Ground.data }], guard := none }) rfl (fun K hK => ?_) ?_
                ·
                  have hN : Hid (Bun w (c2.alloc (.cells #[Value.int .i64 9, .int .i64 (n : Nat), .bool false, .bool false, .int .i64 xk, .int .i64 (m : Nat), .bool be, .bool co] 28)) r v3 u8 u9 (ts.map Tr.x ++ [(St.mk xk (m : Nat) be co)]) (pkSt n0 :: wSt ts) (s0 :: ts.map Tr.s) q ((c2.heap.size, [Value.int .i64 9, .int .i64 (n : Nat), .bool false, .bool false, .int .i64 xk, .int .i64 (m : Nat), .bool be, .bool co], 28) :: (b2, [Value.int .i64 xk, .int .i64 (m : Nat), .bool be, .bool co], 28) :: exU ++ (Kb, [Value.int .i64 xk, .int .i64 (m : Nat), .bool be, .bool co], 28) :: exs)) := Lib.hid (HB.out.new [Value.int .i64 9, .int .i64 (n : Nat), .bool false, .bool false, .int .i64 xk, .int .i64 (m : Nat), .bool be, .bool co] 28)
                  clear HB
                  have HB := hN
                  clear hN
                  go_simp
                  generalize c2.heap.size = b8 at *
                  generalize hcc : c2.alloc (.cells #[Value.int .i64 9, .int .i64 (n : Nat), .bool false, .bool false, .int .i64 xk, .int .i64 (m : Nat), .bool be, .bool co] 28) = c3 at *
                  clear hcc
                  refine hK.out _ _ (HB.out.four (K := Kb) (k := xk) (sz := (m : Nat)) (be := be) (co := co) (by simp)) (fun hHeld => ?_)
                  clear hK K
                  try simp only [Act.put, List.setIfInBounds_toArray, List.set_cons_zero, List.set_cons_succ]
                  refine wpAnyH_ready (rs := [9, 12]) (by kernel_rfl) (by simp) ?_
                  refine AllReadyH.cons (o := { dst := some 97, op := Op.call { callee := Callee.builtin Builtin.append, args := #[Operand.tmp 92, Operand.tmp 96], argTypes := #[29, 29] }, type := 29, pos := "sessions.go:361", after := #[{ on := 4, ground := Ground.data }, { on := 8, ground := Ground.data }, { on := 3, ground := Ground.chain }], guard := none }) rfl (fun K hK => ?_) ?_
                  ·
                    refine wp_append_rowB _ _ (by rfl) Tryd.underlying29 stInfo rfl (by decide) (by decide) (by rfl) HB.out.q ([pkSt n, (St.mk xk (m : Nat) be co)].map St.cs) (st_all _) ⟨b8, 0, none⟩ 2 2 (by rfl) rfl (HB.out.cells (cs := [Value.int .i64 9, .int .i64 (n : Nat), .bool false, .bool false, .int .i64 xk, .int .i64 (m : Nat), .bool be, .bool co]) (T := 28) (by simp) rfl) (by simp only [List.length_map, List.length_append, List.length_cons, List.length_nil, wSt_len]; have := HTL.out; omega) HB.out.gr.size ?_
                    intro v9 c4 ho hg hb
                    have hN := Lib.hid (HB.out.addQ (ds := [pkSt n, (St.mk xk (m : Nat) be co)]) ho hg hb)
                    clear ho hg hb HB
                    have HB := hN
                    clear hN
                    refine hK.out _ _ (HB.out.four (K := Kb) (k := xk) (sz := (m : Nat)) (be := be) (co := co) (by simp)) (fun hHeld => ?_)
                    clear hK K
                    try simp only [Act.put, List.setIfInBounds_toArray, List.set_cons_zero, List.set_cons_succ]
                    refine wpAnyH_ready (rs := [12]) (by kernel_rfl) (by simp) ?_
                    refine AllReadyH.cons (o := { dst := some 100, op := Op.buildSlice 43 1 #[(0, Operand.tmp 99)], type := 43, pos := "sessions.go:361", after := #[{ on := 11, ground := Ground.data }], guard := none }) rfl (fun K hK => ?_) ?_
                    ·
                      have hN : Hid (Bun w (c4.alloc (.cells #[Value.slice pz nz cz] 24)) r v3 v9 u9 (ts.map Tr.x ++ [(St.mk xk (m : Nat) be co)]) (pkSt n0 :: wSt ts ++ [pkSt n, (St.mk xk (m : Nat) be co)]) (s0 :: ts.map Tr.s) q ((c4.heap.size, [Value.slice pz nz cz], 24) :: (b8, [Value.int .i64 9, .int .i64 (n : Nat), .bool false, .bool false, .int .i64 xk, .int .i64 (m : Nat), .bool be, .bool co], 28) :: (b2, [Value.int .i64 xk, .int .i64 (m : Nat), .bool be, .bool co], 28) :: exU ++ (Kb, [Value.int .i64 xk, .int .i64 (m : Nat), .bool be, .bool co], 28) :: exs)) := Lib.hid (HB.out.new [Value.slice pz nz cz] 24)
                      clear HB
                      have HB := hN
                      clear hN
                      go_simp
                      generalize c4.heap.size = b12 at *
                      generalize hcc : c4.alloc (.cells #[Value.slice pz nz cz] 24) = c5 at *
                      clear hcc
                      refine hK.out _ _ (HB.out.four (K := Kb) (k := xk) (sz := (m : Nat)) (be := be) (co := co) (by simp)) (fun hHeld => ?_)
                      clear hK K
                      try simp only [Act.put, List.setIfInBounds_toArray, List.set_cons_zero, List.set_cons_succ]
                      refine wpAnyH_ready (rs := [13]) (by kernel_rfl) (by simp) ?_
                      refine AllReadyH.cons (o := { dst := some 101, op := Op.call { callee := Callee.builtin Builtin.append, args := #[Operand.tmp 98, Operand.tmp 100], argTypes := #[43, 43] }, type := 43, pos := "sessions.go:361", after := #[{ on := 10, ground := Ground.data }, { on := 12, ground := Ground.data }, { on := 9, ground := Ground.chain }], guard := none }) rfl (fun K hK => ?_) ?_
                      ·
                        obtain ⟨us, a1, a2, a3⟩ := HB.out.s.ex
                        have hu4 := HEU.out _ (fun z hz => (HB.out.e z (by simp [hz])).1)
                        have HUS := Lib.hid a1
                        refine wp_append_rowB _ _ (by rfl) Tryd.underlying43 u8sInfo rfl (by decide) (by decide) (by rfl) a2 [[.slice pz nz cz]] (sl_one _ _ _) ⟨b12, 0, none⟩ 1 1 (by rfl) rfl (HB.out.cells (cs := [Value.slice pz nz cz]) (T := 24) (by simp) rfl) (by rw [List.length_map, HUS.out]; simp only [List.length_cons, List.length_map]; have := HTL.out; omega) HB.out.gr.size ?_
                        intro v13 c6 ho hg hb
                        have hN := Lib.hid (HB.out.addS us a1 a2 a3 hu4 ho hg hb)
                        clear a2 a3 hu4 a1
                        clear ho hg hb HB
                        have HB := hN
                        clear hN
                        refine hK.out _ _ (HB.out.four (K := Kb) (k := xk) (sz := (m : Nat)) (be := be) (co := co) (by simp)) (fun hHeld => ?_)
                        clear hK K
                        try simp only [Act.put, List.setIfInBounds_toArray, List.set_cons_zero, List.set_cons_succ]
                        refine wpAnyH_take (i := 14) (oi := { dst := some 10, op := Op.assign (Operand.tmp 91), type := 29, pos := "sessions.go:361", after := #[{ on := 3, ground := Ground.data }, { on := 13, ground := Ground.chain }, { on := 0, ground := Ground.phase }, { on := 1, ground := Ground.phase }, { on := 2, ground := Ground.phase }, { on := 3, ground := Ground.phase }, { on := 4, ground := Ground.textOnly Departure.lateStores }, { on := 5, ground := Ground.textOnly Departure.lateStores }, { on := 6, ground := Ground.textOnly Departure.lateStores }, { on := 7, ground := Ground.textOnly Departure.lateStores }, { on := 8, ground := Ground.textOnly Departure.lateStores }, { on := 9, ground := Ground.textOnly Departure.lateStoresUnsure }, { on := 10, ground := Ground.textOnly Departure.lateStores }, { on := 11, ground := Ground.textOnly Departure.lateStores }, { on := 12, ground := Ground.textOnly Departure.lateStores }, { on := 13, ground := Ground.textOnly Departure.lateStoresUnsure }], guard := none }) (v := ?_) rfl (by kernel_rfl) (by kernel_rfl) (by kernel_rfl) (fun _ _ _ h => h) (Or.inl ⟨by rfl, ?_⟩) (by assumption) ?_
                        rotate_left
                        · (intro w hSw; (try dsimp only at hSw); go_simp; try with_reducible rfl)
                        try simp only [Act.put, List.setIfInBounds_toArray, List.set_cons_zero, List.set_cons_succ]
                        refine wpAnyH_take (i := 15) (oi := { dst := some 8, op := Op.assign (Operand.tmp 97), type := 29, pos := "sessions.go:361", after := #[{ on := 9, ground := Ground.data }, { on := 14, ground := Ground.chain }, { on := 0, ground := Ground.phase }, { on := 1, ground := Ground.phase }, { on := 2, ground := Ground.phase }, { on := 3, ground := Ground.phase }, { on := 4, ground := Ground.phase }, { on := 5, ground := Ground.phase }, { on := 6, ground := Ground.phase }, { on := 7, ground := Ground.phase }, { on := 8, ground := Ground.phase }, { on := 9, ground := Ground.phase }, { on := 10, ground := Ground.textOnly Departure.lateStores }, { on := 11, ground := Ground.textOnly Departure.lateStores }, { on := 12, ground := Ground.textOnly Departure.lateStores }, { on := 13, ground := Ground.textOnly Departure.lateStoresUnsure }, { on := 14, ground := Ground.phase }], guard := none }) (v := ?_) rfl (by kernel_rfl) (by kernel_rfl) (by kernel_rfl) (fun _ _ _ h => h) (Or.inl ⟨by rfl, ?_⟩) (by assumption) ?_
                        rotate_left
                        · (intro w hSw; (try dsimp only at hSw); go_simp; try with_reducible rfl)
                        try simp only [Act.put, List.setIfInBounds_toArray, List.set_cons_zero, List.set_cons_succ]
                        refine wpAnyH_take (i := 16) (oi := { dst := some 9, op := Op.assign (Operand.tmp 101), type := 43, pos := "sessions.go:361", after := #[{ on := 13, ground := Ground.data }, { on := 15, ground := Ground.chain }, { on := 0, ground := Ground.phase }, { on := 1, ground := Ground.phase }, { on := 2, ground := Ground.phase }, { on := 3, ground := Ground.phase }, { on := 4, ground := Ground.phase }, { on := 5, ground := Ground.phase }, { on := 6, ground := Ground.phase }, { on := 7, ground := Ground.phase }, { on := 8, ground := Ground.phase }, { on := 9, ground := Ground.phase }, { on := 10, ground := Ground.phase }, { on := 11, ground := Ground.phase }, { on := 12, ground := Ground.phase }, { on := 13, ground := Ground.phase }, { on := 14, ground := Ground.phase }, { on := 15, ground := Ground.phase }], guard := none }) (v := ?_) rfl (by kernel_rfl) (by kernel_rfl) (by kernel_rfl) (fun _ _ _ h => h) (Or.inl ⟨by rfl, ?_⟩) (by assumption) ?_
                        rotate_left
                        · (intro w hSw; (try dsimp only at hSw); go_simp; try with_reducible rfl)
                        try simp only [Act.put, List.setIfInBounds_toArray, List.set_cons_zero, List.set_cons_succ]
                        refine wpAnyH_done (by kernel_rfl) ?_ _
                        go_wp2_with fail
                        go_roundw
                        case rel => exact ⟨j + 1, ts ++ [Tr.mk (St.mk xk (m : Nat) be co) g n sh], q, by go_num, ⟨HB.out.next ts (Tr.mk (St.mk xk (m : Nat) be co) g n sh) (fun z hz => by simp [hz]), by omega, by rw [List.length_append]; simp; omega, HR1'.out, HR2'.out⟩⟩
                        case measure => simp [intOf]; omega
                      exact AllReadyH.nil
                    exact AllReadyH.nil
                  refine AllReadyH.cons (o := { dst := some 100, op := Op.buildSlice 43 1 #[(0, Operand.tmp 99)], type := 43, pos := "sessions.go:361", after := #[{ on := 11, ground := Ground.data }], guard := none }) rfl (fun K hK => ?_) ?_
                  ·
                    have hN : Hid (Bun w (c3.alloc (.cells #[Value.slice pz nz cz] 24)) r v3 u8 u9 (ts.map Tr.x ++ [(St.mk xk (m : Nat) be co)]) (pkSt n0 :: wSt ts) (s0 :: ts.map Tr.s) q ((c3.heap.size, [Value.slice pz nz cz], 24) :: (b8, [Value.int .i64 9, .int .i64 (n : Nat), .bool false, .bool false, .int .i64 xk, .int .i64 (m : Nat), .bool be, .bool co], 28) :: (b2, [Value.int .i64 xk, .int .i64 (m : Nat), .bool be, .bool co], 28) :: exU ++ (Kb, [Value.int .i64 xk, .int .i64 (m : Nat), .bool be, .bool co], 28) :: exs)) := Lib.hid (HB.out.new [Value.slice pz nz cz] 24)
                    clear HB
                    have HB := hN
                    clear hN
                    go_simp
                    generalize c3.heap.size = b12 at *
                    generalize hcc : c3.alloc (.cells #[Value.slice pz nz cz] 24) = c7 at *
                    clear hcc
                    refine hK.out _ _ (HB.out.four (K := Kb) (k := xk) (sz := (m : Nat)) (be := be) (co := co) (by simp)) (fun hHeld => ?_)
                    clear hK K
                    try simp only [Act.put, List.setIfInBounds_toArray, List.set_cons_zero, List.set_cons_succ]
                    refine wpAnyH_ready (rs := [9]) (by kernel_rfl) (by simp) ?_
                    refine AllReadyH.cons (o := { dst := some 97, op := Op.call { callee := Callee.builtin Builtin.append, args := #[Operand.tmp 92, Operand.tmp 96], argTypes := #[29, 29] }, type := 29, pos := "sessions.go:361", after := #[{ on := 4, ground := Ground.data }, { on := 8, ground := Ground.data }, { on := 3, ground := Ground.chain }], guard := none }) rfl (fun K hK => ?_) ?_
                    ·
                      refine wp_append_rowB _ _ (by rfl) Tryd.underlying29 stInfo rfl (by decide) (by decide) (by rfl) HB.out.q ([pkSt n, (St.mk xk (m : Nat) be co)].map St.cs) (st_all _) ⟨b8, 0, none⟩ 2 2 (by rfl) rfl (HB.out.cells (cs := [Value.int .i64 9, .int .i64 (n : Nat), .bool false, .bool false, .int .i64 xk, .int .i64 (m : Nat), .bool be, .bool co]) (T := 28) (by simp) rfl) (by simp only [List.length_map, List.length_append, List.length_cons, List.length_nil, wSt_len]; have := HTL.out; omega) HB.out.gr.size ?_
                      intro v9 c8 ho hg hb
                      have hN := Lib.hid (HB.out.addQ (ds := [pkSt n, (St.mk xk (m : Nat) be co)]) ho hg hb)
                      clear ho hg hb HB
                      have HB := hN
                      clear hN
                      refine hK.out _ _ (HB.out.four (K := Kb) (k := xk) (sz := (m : Nat)) (be := be) (co := co) (by simp)) (fun hHeld => ?_)
                      clear hK K
                      try simp only [Act.put, List.setIfInBounds_toArray, List.set_cons_zero, List.set_cons_succ]
                      refine wpAnyH_ready (rs := [13]) (by kernel_rfl) (by simp) ?_
                      refine AllReadyH.cons (o := { dst := some 101, op := Op.call { callee := Callee.builtin Builtin.append, args := #[Operand.tmp 98, Operand.tmp 100], argTypes := #[43, 43] }, type := 43, pos := "sessions.go:361", after := #[{ on := 10, ground := Ground.data }, { on := 12, ground := Ground.data }, { on := 9, ground := Ground.chain }], guard := none }) rfl (fun K hK => ?_) ?_
                      ·
                        obtain ⟨us, a1, a2, a3⟩ := HB.out.s.ex
                        have hu4 := HEU.out _ (fun z hz => (HB.out.e z (by simp [hz])).1)
                        have HUS := Lib.hid a1
                        refine wp_append_rowB _ _ (by rfl) Tryd.underlying43 u8sInfo rfl (by decide) (by decide) (by rfl) a2 [[.slice pz nz cz]] (sl_one _ _ _) ⟨b12, 0, none⟩ 1 1 (by rfl) rfl (HB.out.cells (cs := [Value.slice pz nz cz]) (T := 24) (by simp) rfl) (by rw [List.length_map, HUS.out]; simp only [List.length_cons, List.length_map]; have := HTL.out; omega) HB.out.gr.size ?_
                        intro v13 c9 ho hg hb
                        have hN := Lib.hid (HB.out.addS us a1 a2 a3 hu4 ho hg hb)
                        clear a2 a3 hu4 a1
                        clear ho hg hb HB
                        have HB := hN
                        clear hN
                        refine hK.out _ _ (HB.out.four (K := Kb) (k := xk) (sz := (m : Nat)) (be := be) (co := co) (by simp)) (fun hHeld => ?_)
                        clear hK K
                        try simp only [Act.put, List.setIfInBounds_toArray, List.set_cons_zero, List.set_cons_succ]
                        refine wpAnyH_take (i := 14) (oi := { dst := some 10, op := Op.assign (Operand.tmp 91), type := 29, pos := "sessions.go:361", after := #[{ on := 3, ground := Ground.data }, { on := 13, ground := Ground.chain }, { on := 0, ground := Ground.phase }, { on := 1, ground := Ground.phase }, { on := 2, ground := Ground.phase }, { on := 3, ground := Ground.phase }, { on := 4, ground := Ground.textOnly Departure.lateStores }, { on := 5, ground := Ground.textOnly Departure.lateStores }, { on := 6, ground := Ground.textOnly Departure.lateStores }, { on := 7, ground := Ground.textOnly Departure.lateStores }, { on := 8, ground := Ground.textOnly Departure.lateStores }, { on := 9, ground := Ground.textOnly Departure.lateStoresUnsure }, { on := 10, ground := Ground.textOnly Departure.lateStores }, { on := 11, ground := Ground.textOnly Departure.lateStores }, { on := 12, ground := Ground.textOnly Departure.lateStores }, { on := 13, ground := Ground.textOnly Departure.lateStoresUnsure }], guard := none }) (v := ?_) rfl (by kernel_rfl) (by kernel_rfl) (by kernel_rfl) (fun _ _ _ h => h) (Or.inl ⟨by rfl, ?_⟩) (by assumption) ?_
                        rotate_left
                        · (intro w hSw; (try dsimp only at hSw); go_simp; try with_reducible rfl)
                        try simp only [Act.put, List.setIfInBounds_toArray, List.set_cons_zero, List.set_cons_succ]
                        refine wpAnyH_take (i := 15) (oi := { dst := some 8, op := Op.assign (Operand.tmp 97), type := 29, pos := "sessions.go:361", after := #[{ on := 9, ground := Ground.data }, { on := 14, ground := Ground.chain }, { on := 0, ground := Ground.phase }, { on := 1, ground := Ground.phase }, { on := 2, ground := Ground.phase }, { on := 3, ground := Ground.phase }, { on := 4, ground := Ground.phase }, { on := 5, ground := Ground.phase }, { on := 6, ground := Ground.phase }, { on := 7, ground := Ground.phase }, { on := 8, ground := Ground.phase }, { on := 9, ground := Ground.phase }, { on := 10, ground := Ground.textOnly Departure.lateStores }, { on := 11, ground := Ground.textOnly Departure.lateStores }, { on := 12, ground := Ground.textOnly Departure.lateStores }, { on := 13, ground := Ground.textOnly Departure.lateStoresUnsure }, { on := 14, ground := Ground.phase }], guard := none }) (v := ?_) rfl (by kernel_rfl) (by kernel_rfl) (by kernel_rfl) (fun _ _ _ h => h) (Or.inl ⟨by rfl, ?_⟩) (by assumption) ?_
                        rotate_left
                        · (intro w hSw; (try dsimp only at hSw); go_simp; try with_reducible rfl)
                        try simp only [Act.put, List.setIfInBounds_toArray, List.set_cons_zero, List.set_cons_succ]
                        refine wpAnyH_take (i := 16) (oi := { dst := some 9, op := Op.assign (Operand.tmp 101), type := 43, pos := "sessions.go:361", after := #[{ on := 13, ground := Ground.data }, { on := 15, ground := Ground.chain }, { on := 0, ground := Ground.phase }, { on := 1, ground := Ground.phase }, { on := 2, ground := Ground.phase }, { on := 3, ground := Ground.phase }, { on := 4, ground := Ground.phase }, { on := 5, ground := Ground.phase }, { on := 6, ground := Ground.phase }, { on := 7, ground := Ground.phase }, { on := 8, ground := Ground.phase }, { on := 9, ground := Ground.phase }, { on := 10, ground := Ground.phase }, { on := 11, ground := Ground.phase }, { on := 12, ground := Ground.phase }, { on := 13, ground := Ground.phase }, { on := 14, ground := Ground.phase }, { on := 15, ground := Ground.phase }], guard := none }) (v := ?_) rfl (by kernel_rfl) (by kernel_rfl) (by kernel_rfl) (fun _ _ _ h => h) (Or.inl ⟨by rfl, ?_⟩) (by assumption) ?_
                        rotate_left
                        · (intro w hSw; (try dsimp only at hSw); go_simp; try with_reducible rfl)
                        try simp only [Act.put, List.setIfInBounds_toArray, List.set_cons_zero, List.set_cons_succ]
                        refine wpAnyH_done (by kernel_rfl) ?_ _
                        go_wp2_with fail
                        go_roundw
                        case rel => exact ⟨j + 1, ts ++ [Tr.mk (St.mk xk (m : Nat) be co) g n sh], q, by go_num, ⟨HB.out.next ts (Tr.mk (St.mk xk (m : Nat) be co) g n sh) (fun z hz => by simp [hz]), by omega, by rw [List.length_append]; simp; omega, HR1'.out, HR2'.out⟩⟩
                        case measure => simp [intOf]; omega
                      exact AllReadyH.nil
                    exact AllReadyH.nil
                  exact AllReadyH.nil
                refine AllReadyH.cons (o := { dst := some 100, op := Op.buildSlice 43 1 #[(0, Operand.tmp 99)], type := 43, pos := "sessions.go:361", after := #[{ on := 11, ground := Ground.data }], guard := none }) rfl (fun K hK => ?_) ?_
                ·
                  have hN : Hid (Bun w (c2.alloc (.cells #[Value.slice pz nz cz] 24)) r v3 u8 u9 (ts.map Tr.x ++ [(St.mk xk (m : Nat) be co)]) (pkSt n0 :: wSt ts) (s0 :: ts.map Tr.s) q ((c2.heap.size, [Value.slice pz nz cz], 24) :: (b2, [Value.int .i64 xk, .int .i64 (m : Nat), .bool be, .bool co], 28) :: exU ++ (Kb, [Value.int .i64 xk, .int .i64 (m : Nat), .bool be, .bool co], 28) :: exs)) := Lib.hid (HB.out.new [Value.slice pz nz cz] 24)
                  clear HB
                  have HB := hN
                  clear hN
                  go_simp
                  generalize c2.heap.size = b12 at *
                  generalize hcc : c2.alloc (.cells #[Value.slice pz nz cz] 24) = c10 at *
                  clear hcc
                  refine hK.out _ _ (HB.out.four (K := Kb) (k := xk) (sz := (m : Nat)) (be := be) (co := co) (by simp)) (fun hHeld => ?_)
                  clear hK K
                  try simp only [Act.put, List.setIfInBounds_toArray, List.set_cons_zero, List.set_cons_succ]
                  refine wpAnyH_ready (rs := [8]) (by kernel_rfl) (by simp) ?_
                  refine AllReadyH.cons (o := { dst := some 96, op := Op.buildSlice 29 2 #[(0, Operand.tmp 94), (1, Operand.tmp 95)], type := 29, pos := "sessions.go:361", after := #[{ on := 6, ground := Ground.data }, { on := 7, ground := Ground.data }], guard := none }) rfl (fun K hK => ?_) ?_
                  ·
                    have hN : Hid (Bun w (c10.alloc (.cells #[Value.int .i64 9, .int .i64 (n : Nat), .bool false, .bool false, .int .i64 xk, .int .i64 (m : Nat), .bool be, .bool co] 28)) r v3 u8 u9 (ts.map Tr.x ++ [(St.mk xk (m : Nat) be co)]) (pkSt n0 :: wSt ts) (s0 :: ts.map Tr.s) q ((c10.heap.size, [Value.int .i64 9, .int .i64 (n : Nat), .bool false, .bool false, .int .i64 xk, .int .i64 (m : Nat), .bool be, .bool co], 28) :: (b12, [Value.slice pz nz cz], 24) :: (b2, [Value.int .i64 xk, .int .i64 (m : Nat), .bool be, .bool co], 28) :: exU ++ (Kb, [Value.int .i64 xk, .int .i64 (m : Nat), .bool be, .bool co], 28) :: exs)) := Lib.hid (HB.out.new [Value.int .i64 9, .int .i64 (n : Nat), .bool false, .bool false, .int .i64 xk, .int .i64 (m : Nat), .bool be, .bool co] 28)
                    clear HB
                    have HB := hN
                    clear hN
                    go_simp
                    generalize c10.heap.size = b8 at *
                    generalize hcc : c10.alloc (.cells #[Value.int .i64 9, .int .i64 (n : Nat), .bool false, .bool false, .int .i64 xk, .int .i64 (m : Nat), .bool be, .bool co] 28) = c11 at *
                    clear hcc
                    refine hK.out _ _ (HB.out.four (K := Kb) (k := xk) (sz := (m : Nat)) (be := be) (co := co) (by simp)) (fun hHeld => ?_)
                    clear hK K
                    try simp only [Act.put, List.setIfInBounds_toArray, List.set_cons_zero, List.set_cons_succ]
                    refine wpAnyH_ready (rs := [9]) (by kernel_rfl) (by simp) ?_
                    refine AllReadyH.cons (o := { dst := some 97, op := Op.call { callee := Callee.builtin Builtin.append, args := #[Operand.tmp 92, Operand.tmp 96], argTypes := #[29, 29] }, type := 29, pos := "sessions.go:361", after := #[{ on := 4, ground := Ground.data }, { on := 8, ground := Ground.data }, { on := 3, ground := Ground.chain }], guard := none }) rfl (fun K hK => ?_) ?_
                    ·
                      refine wp_append_rowB _ _ (by rfl) Tryd.underlying29 stInfo rfl (by decide) (by decide) (by rfl) HB.out.q ([pkSt n, (St.mk xk (m : Nat) be co)].map St.cs) (st_all _) ⟨b8, 0, none⟩ 2 2 (by rfl) rfl (HB.out.cells (cs := [Value.int .i64 9, .int .i64 (n : Nat), .bool false, .bool false, .int .i64 xk, .int .i64 (m : Nat), .bool be, .bool co]) (T := 28) (by simp) rfl) (by simp only [List.length_map, List.length_append, List.length_cons, List.length_nil, wSt_len]; have := HTL.out; omega) HB.out.gr.size ?_
                      intro v9 c12 ho hg hb
                      have hN := Lib.hid (HB.out.addQ (ds := [pkSt n, (St.mk xk (m : Nat) be co)]) ho hg hb)
                      clear ho hg hb HB
                      have HB := hN
                      clear hN
                      refine hK.out _ _ (HB.out.four (K := Kb) (k := xk) (sz := (m : Nat)) (be := be) (co := co) (by simp)) (fun hHeld => ?_)
                      clear hK K
                      try simp only [Act.put, List.setIfInBounds_toArray, List.set_cons_zero, List.set_cons_succ]
                      refine wpAnyH_ready (rs := [13]) (by kernel_rfl) (by simp) ?_
                      refine AllReadyH.cons (o := { dst := some 101, op := Op.call { callee := Callee.builtin Builtin.append, args := #[Operand.tmp 98, Operand.tmp 100], argTypes := #[43, 43] }, type := 43, pos := "sessions.go:361", after := #[{ on := 10, ground := Ground.data }, { on := 12, ground := Ground.data }, { on := 9, ground := Ground.chain }], guard := none }) rfl (fun K hK => ?_) ?_
                      ·
                        obtain ⟨us, a1, a2, a3⟩ := HB.out.s.ex
                        have hu4 := HEU.out _ (fun z hz => (HB.out.e z (by simp [hz])).1)
                        have HUS := Lib.hid a1
                        refine wp_append_rowB _ _ (by rfl) Tryd.underlying43 u8sInfo rfl (by decide) (by decide) (by rfl) a2 [[.slice pz nz cz]] (sl_one _ _ _) ⟨b12, 0, none⟩ 1 1 (by rfl) rfl (HB.out.cells (cs := [Value.slice pz nz cz]) (T := 24) (by simp) rfl) (by rw [List.length_map, HUS.out]; simp only [List.length_cons, List.length_map]; have := HTL.out; omega) HB.out.gr.size ?_
                        intro v13 c13 ho hg hb
                        have hN := Lib.hid (HB.out.addS us a1 a2 a3 hu4 ho hg hb)
                        clear a2 a3 hu4 a1
                        clear ho hg hb HB
                        have HB := hN
                        clear hN
                        refine hK.out _ _ (HB.out.four (K := Kb) (k := xk) (sz := (m : Nat)) (be := be) (co := co) (by simp)) (fun hHeld => ?_)
                        clear hK K
                        try simp only [Act.put, List.setIfInBounds_toArray, List.set_cons_zero, List.set_cons_succ]
                        refine wpAnyH_take (i := 14) (oi := { dst := some 10, op := Op.assign (Operand.tmp 91), type := 29, pos := "sessions.go:361", after := #[{ on := 3, ground := Ground.data }, { on := 13, ground := Ground.chain }, { on := 0, ground := Ground.phase }, { on := 1, ground := Ground.phase }, { on := 2, ground := Ground.phase }, { on := 3, ground := Ground.phase }, { on := 4, ground := Ground.textOnly Departure.lateStores }, { on := 5, ground := Ground.textOnly Departure.lateStores }, { on := 6, ground := Ground.textOnly Departure.lateStores }, { on := 7, ground := Ground.textOnly Departure.lateStores }, { on := 8, ground := Ground.textOnly Departure.lateStores }, { on := 9, ground := Ground.textOnly Departure.lateStoresUnsure }, { on := 10, ground := Ground.textOnly Departure.lateStores }, { on := 11, ground := Ground.textOnly Departure.lateStores }, { on := 12, ground := Ground.textOnly Departure.lateStores }, { on := 13, ground := Ground.textOnly Departure.lateStoresUnsure }], guard := none }) (v := ?_) rfl (by kernel_rfl) (by kernel_rfl) (by kernel_rfl) (fun _ _ _ h => h) (Or.inl ⟨by rfl, ?_⟩) (by assumption) ?_
                        rotate_left
                        · (intro w hSw; (try dsimp only at hSw); go_simp; try with_reducible rfl)
                        try simp only [Act.put, List.setIfInBounds_toArray, List.set_cons_zero, List.set_cons_succ]
                        refine wpAnyH_take (i := 15) (oi := { dst := some 8, op := Op.assign (Operand.tmp 97), type := 29, pos := "sessions.go:361", after := #[{ on := 9, ground := Ground.data }, { on := 14, ground := Ground.chain }, { on := 0, ground := Ground.phase }, { on := 1, ground := Ground.phase }, { on := 2, ground := Ground.phase }, { on := 3, ground := Ground.phase }, { on := 4, ground := Ground.phase }, { on := 5, ground := Ground.phase }, { on := 6, ground := Ground.phase }, { on := 7, ground := Ground.phase }, { on := 8, ground := Ground.phase }, { on := 9, ground := Ground.phase }, { on := 10, ground := Ground.textOnly Departure.lateStores }, { on := 11, ground := Ground.textOnly Departure.lateStores }, { on := 12, ground := Ground.textOnly Departure.lateStores }, { on := 13, ground := Ground.textOnly Departure.lateStoresUnsure }, { on := 14, ground := Ground.phase }], guard := none }) (v := ?_) rfl (by kernel_rfl) (by kernel_rfl) (by kernel_rfl) (fun _ _ _ h => h) (Or.inl ⟨by rfl, ?_⟩) (by assumption) ?_
                        rotate_left
                        · (intro w hSw; (try dsimp only at hSw); go_simp; try with_reducible rfl)
                        try simp only [Act.put, List.setIfInBounds_toArray, List.set_cons_zero, List.set_cons_succ]
                        refine wpAnyH_take (i := 16) (oi := { dst := some 9, op := Op.assign (Operand.tmp 101), type := 43, pos := "sessions.go:361", after := #[{ on := 13, ground := Ground.data }, { on := 15, ground := Ground.chain }, { on := 0, ground := Ground.phase }, { on := 1, ground := Ground.phase }, { on := 2, ground := Ground.phase }, { on := 3, ground := Ground.phase }, { on := 4, ground := Ground.phase }, { on := 5, ground := Ground.phase }, { on := 6, ground := Ground.phase }, { on := 7, ground := Ground.phase }, { on := 8, ground := Ground.phase }, { on := 9, ground := Ground.phase }, { on := 10, ground := Ground.phase }, { on := 11, ground := Ground.phase }, { on := 12, ground := Ground.phase }, { on := 13, ground := Ground.phase }, { on := 14, ground := Ground.phase }, { on := 15, ground := Ground.phase }], guard := none }) (v := ?_) rfl (by kernel_rfl) (by kernel_rfl) (by kernel_rfl) (fun _ _ _ h => h) (Or.inl ⟨by rfl, ?_⟩) (by assumption) ?_
                        rotate_left
                        · (intro w hSw; (try dsimp only at hSw); go_simp; try with_reducible rfl)
                        try simp only [Act.put, List.setIfInBounds_toArray, List.set_cons_zero, List.set_cons_succ]
                        refine wpAnyH_done (by kernel_rfl) ?_ _
                        go_wp2_with fail
                        go_roundw
                        case rel => exact ⟨j + 1, ts ++ [Tr.mk (St.mk xk (m : Nat) be co) g n sh], q, by go_num, ⟨HB.out.next ts (Tr.mk (St.mk xk (m : Nat) be co) g n sh) (fun z hz => by simp [hz]), by omega, by rw [List.length_append]; simp; omega, HR1'.out, HR2'.out⟩⟩
                        case measure => simp [intOf]; omega
                      exact AllReadyH.nil
                    exact AllReadyH.nil
                  exact AllReadyH.nil
                exact AllReadyH.nil
              refine AllReadyH.cons (o := { dst := some 96, op := Op.buildSlice 29 2 #[(0, Operand.tmp 94), (1, Operand.tmp 95)], type := 29, pos := "sessions.go:361", after := #[{ on := 6, ground := Ground.data }, { on := 7, ground := Ground.data }], guard := none }) rfl (fun K hK => ?_) ?_
              ·
                have hN : Hid (Bun w (c1.alloc (.cells #[Value.int .i64 9, .int .i64 (n : Nat), .bool false, .bool false, .int .i64 xk, .int .i64 (m : Nat), .bool be, .bool co] 28)) r u10 u8 u9 (ts.map Tr.x) (pkSt n0 :: wSt ts) (s0 :: ts.map Tr.s) q ((c1.heap.size, [Value.int .i64 9, .int .i64 (n : Nat), .bool false, .bool false, .int .i64 xk, .int .i64 (m : Nat), .bool be, .bool co], 28) :: (b2, [Value.int .i64 xk, .int .i64 (m : Nat), .bool be, .bool co], 28) :: exU ++ (Kb, [Value.int .i64 xk, .int .i64 (m : Nat), .bool be, .bool co], 28) :: exs)) := Lib.hid (HB.out.new [Value.int .i64 9, .int .i64 (n : Nat), .bool false, .bool false, .int .i64 xk, .int .i64 (m : Nat), .bool be, .bool co] 28)
                clear HB
                have HB := hN
                clear hN
                go_simp
                generalize c1.heap.size = b8 at *
                generalize hcc : c1.alloc (.cells #[Value.int .i64 9, .int .i64 (n : Nat), .bool false, .bool false, .int .i64 xk, .int .i64 (m : Nat), .bool be, .bool co] 28) = c14 at *
                clear hcc
                refine hK.out _ _ (HB.out.four (K := Kb) (k := xk) (sz := (m : Nat)) (be := be) (co := co) (by simp)) (fun hHeld => ?_)
                clear hK K
                try simp only [Act.put, List.setIfInBounds_toArray, List.set_cons_zero, List.set_cons_succ]
                refine wpAnyH_ready (rs := [3, 12]) (by kernel_rfl) (by simp) ?_
                refine AllReadyH.cons (o := { dst := some 91, op := Op.call { callee := Callee.builtin Builtin.append, args := #[Operand.tmp 88, Operand.tmp 90], argTypes := #[29, 29] }, type := 29, pos := "sessions.go:361", after := #[{ on := 0, ground := Ground.data }, { on := 2, ground := Ground.data }], guard := none }) rfl (fun K hK => ?_) ?_
                ·
                  refine wp_append_rowB _ _ (by rfl) Tryd.underlying29 stInfo rfl (by decide) (by decide) (by rfl) HB.out.p ([(St.mk xk (m : Nat) be co)].map St.cs) (st_all _) ⟨b2, 0, none⟩ 1 1 (by rfl) rfl (HB.out.cells (cs := [Value.int .i64 xk, .int .i64 (m : Nat), .bool be, .bool co]) (T := 28) (by simp) rfl) (by simp only [List.length_map, List.length_append, List.length_cons, List.length_nil, wSt_len]; have := HTL.out; omega) HB.out.gr.size ?_
                  intro v3 c15 ho hg hb
                  have hN := Lib.hid (HB.out.addP (ds := [(St.mk xk (m : Nat) be co)]) ho hg hb)
                  clear ho hg hb HB
                  have HB := hN
                  clear hN
                  refine hK.out _ _ (HB.out.four (K := Kb) (k := xk) (sz := (m : Nat)) (be := be) (co := co) (by simp)) (fun hHeld => ?_)
                  clear hK K
                  try simp only [Act.put, List.setIfInBounds_toArray, List.set_cons_zero, List.set_cons_succ]
                  refine wpAnyH_ready (rs := [9, 12]) (by kernel_rfl) (by simp) ?_
                  refine AllReadyH.cons (o := { dst := some 97, op := Op.call { callee := Callee.builtin Builtin.append, args := #[Operand.tmp 92, Operand.tmp 96], argTypes := #[29, 29] }, type := 29, pos := "sessions.go:361", after := #[{ on := 4, ground := Ground.data }, { on := 8, ground := Ground.data }, { on := 3, ground := Ground.chain }], guard := none }) rfl (fun K hK => ?_) ?_
                  ·
                    refine wp_append_rowB _ _ (by rfl) Tryd.underlying29 stInfo rfl (by decide) (by decide) (by rfl) HB.out.q ([pkSt n, (St.mk xk (m : Nat) be co)].map St.cs) (st_all _) ⟨b8, 0, none⟩ 2 2 (by rfl) rfl (HB.out.cells (cs := [Value.int .i64 9, .int .i64 (n : Nat), .bool false, .bool false, .int .i64 xk, .int .i64 (m : Nat), .bool be, .bool co]) (T := 28) (by simp) rfl) (by simp only [List.length_map, List.length_append, List.length_cons, List.length_nil, wSt_len]; have := HTL.out; omega) HB.out.gr.size ?_
                    intro v9 c16 ho hg hb
                    have hN := Lib.hid (HB.out.addQ (ds := [pkSt n, (St.mk xk (m : Nat) be co)]) ho hg hb)
                    clear ho hg hb HB
                    have HB := hN
                    clear hN
                    refine hK.out _ _ (HB.out.four (K := Kb) (k := xk) (sz := (m : Nat)) (be := be) (co := co) (by simp)) (fun hHeld => ?_)
                    clear hK K
                    try simp only [Act.put, List.setIfInBounds_toArray, List.set_cons_zero, List.set_cons_succ]
                    refine wpAnyH_ready (rs := [12]) (by kernel_rfl) (by simp) ?_
                    refine AllReadyH.cons (o := { dst := some 100, op := Op.buildSlice 43 1 #[(0, Operand.tmp 99)], type := 43, pos := "sessions.go:361", after := #[{ on := 11, ground := Ground.data }], guard := none }) rfl (fun K hK => ?_) ?_
                    ·
                      have hN : Hid (Bun w (c16.alloc (.cells #[Value.slice pz nz cz] 24)) r v3 v9 u9 (ts.map Tr.x ++ [(St.mk xk (m : Nat) be co)]) (pkSt n0 :: wSt ts ++ [pkSt n, (St.mk xk (m : Nat) be co)]) (s0 :: ts.map Tr.s) q ((c16.heap.size, [Value.slice pz nz cz], 24) :: (b8, [Value.int .i64 9, .int .i64 (n : Nat), .bool false, .bool false, .int .i64 xk, .int .i64 (m : Nat), .bool be, .bool co], 28) :: (b2, [Value.int .i64 xk, .int .i64 (m : Nat), .bool be, .bool co], 28) :: exU ++ (Kb, [Value.int .i64 xk, .int .i64 (m : Nat), .bool be, .bool co], 28) :: exs)) := Lib.hid (HB.out.new [Value.slice pz nz cz] 24)
                      clear HB
                      have HB := hN
                      clear hN
                      go_simp
                      generalize c16.heap.size = b12 at *
                      generalize hcc : c16.alloc (.cells #[Value.slice pz nz cz] 24) = c17 at *
                      clear hcc
                      refine hK.out _ _ (HB.out.four (K := Kb) (k := xk) (sz := (m : Nat)) (be := be) (co := co) (by simp)) (fun hHeld => ?_)
                      clear hK K
                      try simp only [Act.put, List.setIfInBounds_toArray, List.set_cons_zero, List.set_cons_succ]
                      refine wpAnyH_ready (rs := [13]) (by kernel_rfl) (by simp) ?_
                      refine AllReadyH.cons (o := { dst := some 101, op := Op.call { callee := Callee.builtin Builtin.append, args := #[Operand.tmp 98, Operand.tmp 100], argTypes := #[43, 43] }, type := 43, pos := "sessions.go:361", after := #[{ on := 10, ground := Ground.data }, { on := 12, ground := Ground.data }, { on := 9, ground := Ground.chain }], guard := none }) rfl (fun K hK => ?_) ?_
                      ·
                        obtain ⟨us, a1, a2, a3⟩ := HB.out.s.ex
                        have hu4 := HEU.out _ (fun z hz => (HB.out.e z (by simp [hz])).1)
                        have HUS := Lib.hid a1
                        refine wp_append_rowB _ _ (by rfl) Tryd.underlying43 u8sInfo rfl (by decide) (by decide) (by rfl) a2 [[.slice pz nz cz]] (sl_one _ _ _) ⟨b12, 0, none⟩ 1 1 (by rfl) rfl (HB.out.cells (cs := [Value.slice pz nz cz]) (T := 24) (by simp) rfl) (by rw [List.length_map, HUS.out]; simp only [List.length_cons, List.length_map]; have := HTL.out; omega) HB.out.gr.size ?_
                        intro v13 c18 ho hg hb
                        have hN := Lib.hid (HB.out.addS us a1 a2 a3 hu4 ho hg hb)
                        clear a2 a3 hu4 a1
                        clear ho hg hb HB
                        have HB := hN
                        clear hN
                        refine hK.out _ _ (HB.out.four (K := Kb) (k := xk) (sz := (m : Nat)) (be := be) (co := co) (by simp)) (fun hHeld => ?_)
                        clear hK K
                        try simp only [Act.put, List.setIfInBounds_toArray, List.set_cons_zero, List.set_cons_succ]
                        refine wpAnyH_take (i := 14) (oi := { dst := some 10, op := Op.assign (Operand.tmp 91), type := 29, pos := "sessions.go:361", after := #[{ on := 3, ground := Ground.data }, { on := 13, ground := Ground.chain }, { on := 0, ground := Ground.phase }, { on := 1, ground := Ground.phase }, { on := 2, ground := Ground.phase }, { on := 3, ground := Ground.phase }, { on := 4, ground := Ground.textOnly Departure.lateStores }, { on := 5, ground := Ground.textOnly Departure.lateStores }, { on := 6, ground := Ground.textOnly Departure.lateStores }, { on := 7, ground := Ground.textOnly Departure.lateStores }, { on := 8, ground := Ground.textOnly Departure.lateStores }, { on := 9, ground := Ground.textOnly Departure.lateStoresUnsure }, { on := 10, ground := Ground.textOnly Departure.lateStores }, { on := 11, ground := Ground.textOnly Departure.lateStores }, { on := 12, ground := Ground.textOnly Departure.lateStores }, { on := 13, ground := Ground.textOnly Departure.lateStoresUnsure }], guard := none }) (v := ?_) rfl (by kernel_rfl) (by kernel_rfl) (by kernel_rfl) (fun _ _ _ h => h) (Or.inl ⟨by rfl, ?_⟩) (by assumption) ?_
                        rotate_left
                        · (intro w hSw; (try dsimp only at hSw); go_simp; try with_reducible rfl)
                        try simp only [Act.put, List.setIfInBounds_toArray, List.set_cons_zero, List.set_cons_succ]
                        refine wpAnyH_take (i := 15) (oi := { dst := some 8, op := Op.assign (Operand.tmp 97), type := 29, pos := "sessions.go:361", after := #[{ on := 9, ground := Ground.data }, { on := 14, ground := Ground.chain }, { on := 0, ground := Ground.phase }, { on := 1, ground := Ground.phase }, { on := 2, ground := Ground.phase }, { on := 3, ground := Ground.phase }, { on := 4, ground := Ground.phase }, { on := 5, ground := Ground.phase }, { on := 6, ground := Ground.phase }, { on := 7, ground := Ground.phase }, { on := 8, ground := Ground.phase }, { on := 9, ground := Ground.phase }, { on := 10, ground := Ground.textOnly Departure.lateStores }, { on := 11, ground := Ground.textOnly Departure.lateStores }, { on := 12, ground := Ground.textOnly Departure.lateStores }, { on := 13, ground := Ground.textOnly Departure.lateStoresUnsure }, { on := 14, ground := Ground.phase }], guard := none }) (v := ?_) rfl (by kernel_rfl) (by kernel_rfl) (by kernel_rfl) (fun _ _ _ h => h) (Or.inl ⟨by rfl, ?_⟩) (by assumption) ?_
                        rotate_left
                        · (intro w hSw; (try dsimp only at hSw); go_simp; try with_reducible rfl)
                        try simp only [Act.put, List.setIfInBounds_toArray, List.set_cons_zero, List.set_cons_succ]
                        refine wpAnyH_take (i := 16) (oi := { dst := some 9, op := Op.assign (Operand.tmp 101), type := 43, pos := "sessions.go:361", after := #[{ on := 13, ground := Ground.data }, { on := 15, ground := Ground.chain }, { on := 0, ground := Ground.phase }, { on := 1, ground := Ground.phase }, { on := 2, ground := Ground.phase }, { on := 3, ground := Ground.phase }, { on := 4, ground := Ground.phase }, { on := 5, ground := Ground.phase }, { on := 6, ground := Ground.phase }, { on := 7, ground := Ground.phase }, { on := 8, ground := Ground.phase }, { on := 9, ground := Ground.phase }, { on := 10, ground := Ground.phase }, { on := 11, ground := Ground.phase }, { on := 12, ground := Ground.phase }, { on := 13, ground := Ground.phase }, { on := 14, ground := Ground.phase }, { on := 15, ground := Ground.phase }], guard := none }) (v := ?_) rfl (by kernel_rfl) (by kernel_rfl) (by kernel_rfl) (fun _ _ _ h => h) (Or.inl ⟨by rfl, ?_⟩) (by assumption) ?_
                        rotate_left
                        · (intro w hSw; (try dsimp only at hSw); go_simp; try with_reducible rfl)
                        try simp only [Act.put, List.setIfInBounds_toArray, List.set_cons_zero, List.set_cons_succ]
                        refine wpAnyH_done (by kernel_rfl) ?_ _
                        go_wp2_with fail
                        go_roundw
                        case rel => exact ⟨j + 1, ts ++ [Tr.mk (St.mk xk (m : Nat) be co) g n sh], q, by go_num, ⟨HB.out.next ts (Tr.mk (St.mk xk (m : Nat) be co) g n sh) (fun z hz => by simp [hz]), by omega, by rw [List.length_append]; simp; omega, HR1'.out, HR2'.out⟩⟩
                        case measure => simp [intOf]; omega
                      exact AllReadyH.nil
                    exact AllReadyH.nil
                  refine AllReadyH.cons (o := { dst := some 100, op := Op.buildSlice 43 1 #[(0, Operand.tmp 99)], type := 43, pos := "sessions.go:361", after := #[{ on := 11, ground := Ground.data }], guard := none }) rfl (fun K hK => ?_) ?_
                  ·
                    have hN : Hid (Bun w (c15.alloc (.cells #[Value.slice pz nz cz] 24)) r v3 u8 u9 (ts.map Tr.x ++ [(St.mk xk (m : Nat) be co)]) (pkSt n0 :: wSt ts) (s0 :: ts.map Tr.s) q ((c15.heap.size, [Value.slice pz nz cz], 24) :: (b8, [Value.int .i64 9, .int .i64 (n : Nat), .bool false, .bool false, .int .i64 xk, .int .i64 (m : Nat), .bool be, .bool co], 28) :: (b2, [Value.int .i64 xk, .int .i64 (m : Nat), .bool be, .bool co], 28) :: exU ++ (Kb, [Value.int .i64 xk, .int .i64 (m : Nat), .bool be, .bool co], 28) :: exs)) := Lib.hid (HB.out.new [Value.slice pz nz cz] 24)
                    clear HB
                    have HB := hN
                    clear hN
                    go_simp
                    generalize c15.heap.size = b12 at *
                    generalize hcc : c15.alloc (.cells #[Value.slice pz nz cz] 24) = c19 at *
                    clear hcc
                    refine hK.out _ _ (HB.out.four (K := Kb) (k := xk) (sz := (m : Nat)) (be := be) (co := co) (by simp)) (fun hHeld => ?_)
                    clear hK K
                    try simp only [Act.put, List.setIfInBounds_toArray, List.set_cons_zero, List.set_cons_succ]
                    refine wpAnyH_ready (rs := [9]) (by kernel_rfl) (by simp) ?_
                    refine AllReadyH.cons (o := { dst := some 97, op := Op.call { callee := Callee.builtin Builtin.append, args := #[Operand.tmp 92, Operand.tmp 96], argTypes := #[29, 29] }, type := 29, pos := "sessions.go:361", after := #[{ on := 4, ground := Ground.data }, { on := 8, ground := Ground.data }, { on := 3, ground := Ground.chain }], guard := none }) rfl (fun K hK => ?_) ?_
                    ·
                      refine wp_append_rowB _ _ (by rfl) Tryd.underlying29 stInfo rfl (by decide) (by decide) (by rfl) HB.out.q ([pkSt n, (St.mk xk (m : Nat) be co)].map St.cs) (st_all _) ⟨b8, 0, none⟩ 2 2 (by rfl) rfl (HB.out.cells (cs := [Value.int .i64 9, .int .i64 (n : Nat), .bool false, .bool false, .int .i64 xk, .int .i64 (m : Nat), .bool be, .bool co]) (T := 28) (by simp) rfl) (by simp only [List.length_map, List.length_append, List.length_cons, List.length_nil, wSt_len]; have := HTL.out; omega) HB.out.gr.size ?_
                      intro v9 c20 ho hg hb
                      have hN := Lib.hid (HB.out.addQ (ds := [pkSt n, (St.mk xk (m : Nat) be co)]) ho hg hb)
                      clear ho hg hb HB
                      have HB := hN
                      clear hN
                      refine hK.out _ _ (HB.out.four (K := Kb) (k := xk) (sz := (m : Nat)) (be := be) (co := co) (by simp)) (fun hHeld => ?_)
                      clear hK K
                      try simp only [Act.put, List.setIfInBounds_toArray, List.set_cons_zero, List.set_cons_succ]
                      refine wpAnyH_ready (rs := [13]) (by kernel_rfl) (by simp) ?_
                      refine AllReadyH.cons (o := { dst := some 101, op := Op.call { callee := Callee.builtin Builtin.append, args := #[Operand.tmp 98, Operand.tmp 100], argTypes := #[43, 43] }, type := 43, pos := "sessions.go:361", after := #[{ on := 10, ground := Ground.data }, { on := 12, ground := Ground.data }, { on := 9, ground := Ground.chain }], guard := none }) rfl (fun K hK => ?_) ?_
                      ·
                        obtain ⟨us, a1, a2, a3⟩ := HB.out.s.ex
                        have hu4 := HEU.out _ (fun z hz => (HB.out.e z (by simp [hz])).1)
                        have HUS := Lib.hid a1
                        refine wp_append_rowB _ _ (by rfl) Tryd.underlying43 u8sInfo rfl (by decide) (by decide) (by rfl) a2 [[.slice pz nz cz]] (sl_one _ _ _) ⟨b12, 0, none⟩ 1 1 (by rfl) rfl (HB.out.cells (cs := [Value.slice pz nz cz]) (T := 24) (by simp) rfl) (by rw [List.length_map, HUS.out]; simp only [List.length_cons, List.length_map]; have := HTL.out; omega) HB.out.gr.size ?_
                        intro v13 c21 ho hg hb
                        have hN := Lib.hid (HB.out.addS us a1 a2 a3 hu4 ho hg hb)
                        clear a2 a3 hu4 a1
                        clear ho hg hb HB
                        have HB := hN
                        clear hN
                        refine hK.out _ _ (HB.out.four (K := Kb) (k := xk) (sz := (m : Nat)) (be := be) (co := co) (by simp)) (fun hHeld => ?_)
                        clear hK K
                        try simp only [Act.put, List.setIfInBounds_toArray, List.set_cons_zero, List.set_cons_succ]
                        refine wpAnyH_take (i := 14) (oi := { dst := some 10, op := Op.assign (Operand.tmp 91), type := 29, pos := "sessions.go:361", after := #[{ on := 3, ground := Ground.data }, { on := 13, ground := Ground.chain }, { on := 0, ground := Ground.phase }, { on := 1, ground := Ground.phase }, { on := 2, ground := Ground.phase }, { on := 3, ground := Ground.phase }, { on := 4, ground := Ground.textOnly Departure.lateStores }, { on := 5, ground := Ground.textOnly Departure.lateStores }, { on := 6, ground := Ground.textOnly Departure.lateStores }, { on := 7, ground := Ground.textOnly Departure.lateStores }, { on := 8, ground := Ground.textOnly Departure.lateStores }, { on := 9, ground := Ground.textOnly Departure.lateStoresUnsure }, { on := 10, ground := Ground.textOnly Departure.lateStores }, { on := 11, ground := Ground.textOnly Departure.lateStores }, { on := 12, ground := Ground.textOnly Departure.lateStores }, { on := 13, ground := Ground.textOnly Departure.lateStoresUnsure }], guard := none }) (v := ?_) rfl (by kernel_rfl) (by kernel_rfl) (by kernel_rfl) (fun _ _ _ h => h) (Or.inl ⟨by rfl, ?_⟩) (by assumption) ?_
                        rotate_left
                        · (intro w hSw; (try dsimp only at hSw); go_simp; try with_reducible rfl)
                        try simp only [Act.put, List.setIfInBounds_toArray, List.set_cons_zero, List.set_cons_succ]
                        refine wpAnyH_take (i := 15) (oi := { dst := some 8, op := Op.assign (Operand.tmp 97), type := 29, pos := "sessions.go:361", after := #[{ on := 9, ground := Ground.data }, { on := 14, ground := Ground.chain }, { on := 0, ground := Ground.phase }, { on := 1, ground := Ground.phase }, { on := 2, ground := Ground.phase }, { on := 3, ground := Ground.phase }, { on := 4, ground := Ground.phase }, { on := 5, ground := Ground.phase }, { on := 6, ground := Ground.phase }, { on := 7, ground := Ground.phase }, { on := 8, ground := Ground.phase }, { on := 9, ground := Ground.phase }, { on := 10, ground := Ground.textOnly Departure.lateStores }, { on := 11, ground := Ground.textOnly Departure.lateStores }, { on := 12, ground := Ground.textOnly Departure.lateStores }, { on := 13, ground := Ground.textOnly Departure.lateStoresUnsure }, { on := 14, ground := Ground.phase }], guard := none }) (v := ?_) rfl (by kernel_rfl) (by kernel_rfl) (by kernel_rfl) (fun _ _ _ h => h) (Or.inl ⟨by rfl, ?_⟩) (by assumption) ?_
                        rotate_left
                        · (intro w hSw; (try dsimp only at hSw); go_simp; try with_reducible rfl)
                        try simp only [Act.put, List.setIfInBounds_toArray, List.set_cons_zero, List.set_cons_succ]
                        refine wpAnyH_take (i := 16) (oi := { dst := some 9, op := Op.assign (Operand.tmp 101), type := 43, pos := "sessions.go:361", after := #[{ on := 13, ground := Ground.data }, { on := 15, ground := Ground.chain }, { on := 0, ground := Ground.phase }, { on := 1, ground := Ground.phase }, { on := 2, ground := Ground.phase }, { on := 3, ground := Ground.phase }, { on := 4, ground := Ground.phase }, { on := 5, ground := Ground.phase }, { on := 6, ground := Ground.phase }, { on := 7, ground := Ground.phase }, { on := 8, ground := Ground.phase }, { on := 9, ground := Ground.phase }, { on := 10, ground := Ground.phase }, { on := 11, ground := Ground.phase }, { on := 12, ground := Ground.phase }, { on := 13, ground := Ground.phase }, { on := 14, ground := Ground.phase }, { on := 15, ground := Ground.phase }], guard := none }) (v := ?_) rfl (by kernel_rfl) (by kernel_rfl) (by kernel_rfl) (fun _ _ _ h => h) (Or.inl ⟨by rfl, ?_⟩) (by assumption) ?_
                        rotate_left
                        · (intro w hSw; (try dsimp only at hSw); go_simp; try with_reducible rfl)
                        try simp only [Act.put, List.setIfInBounds_toArray, List.set_cons_zero, List.set_cons_succ]
                        refine wpAnyH_done (by kernel_rfl) ?_ _
                        go_wp2_with fail
                        go_roundw
                        case rel => exact ⟨j + 1, ts ++ [Tr.mk (St.mk xk (m : Nat) be co) g n sh], q, by go_num, ⟨HB.out.next ts (Tr.mk (St.mk xk (m : Nat) be co) g n sh) (fun z hz => by simp [hz]), by omega, by rw [List.length_append]; simp; omega, HR1'.out, HR2'.out⟩⟩
                        case measure => simp [intOf]; omega
                      exact AllReadyH.nil
                    exact AllReadyH.nil
                  exact AllReadyH.nil
                refine AllReadyH.cons (o := { dst := some 100, op := Op.buildSlice 43 1 #[(0, Operand.tmp 99)], type := 43, pos := "sessions.go:361", after := #[{ on := 11, ground := Ground.data }], guard := none }) rfl (fun K hK => ?_) ?_
                ·
                  have hN : Hid (Bun w (c14.alloc (.cells #[Value.slice pz nz cz] 24)) r u10 u8 u9 (ts.map Tr.x) (pkSt n0 :: wSt ts) (s0 :: ts.map Tr.s) q ((c14.heap.size, [Value.slice pz nz cz], 24) :: (b8, [Value.int .i64 9, .int .i64 (n : Nat), .bool false, .bool false, .int .i64 xk, .int .i64 (m : Nat), .bool be, .bool co], 28) :: (b2, [Value.int .i64 xk, .int .i64 (m : Nat), .bool be, .bool co], 28) :: exU ++ (Kb, [Value.int .i64 xk, .int .i64 (m : Nat), .bool be, .bool co], 28) :: exs)) := Lib.hid (HB.out.new [Value.slice pz nz cz] 24)
                  clear HB
                  have HB := hN
                  clear hN
                  go_simp
                  generalize c14.heap.size = b12 at *
                  generalize hcc : c14.alloc (.cells #[Value.slice pz nz cz] 24) = c22 at *
                  clear hcc
                  refine hK.out _ _ (HB.out.four (K := Kb) (k := xk) (sz := (m : Nat)) (be := be) (co := co) (by simp)) (fun hHeld => ?_)
                  clear hK K
                  try simp only [Act.put, List.setIfInBounds_toArray, List.set_cons_zero, List.set_cons_succ]
                  refine wpAnyH_ready (rs := [3]) (by kernel_rfl) (by simp) ?_
                  refine AllReadyH.cons (o := { dst := some 91, op := Op.call { callee := Callee.builtin Builtin.append, args := #[Operand.tmp 88, Operand.tmp 90], argTypes := #[29, 29] }, type := 29, pos := "sessions.go:361", after := #[{ on := 0, ground := Ground.data }, { on := 2, ground := Ground.data }], guard := none }) rfl (fun K hK => ?_) ?_
                  ·
                    refine wp_append_rowB _ _ (by rfl) Tryd.underlying29 stInfo rfl (by decide) (by decide) (by rfl) HB.out.p ([(St.mk xk (m : Nat) be co)].map St.cs) (st_all _) ⟨b2, 0, none⟩ 1 1 (by rfl) rfl (HB.out.cells (cs := [Value.int .i64 xk, .int .i64 (m : Nat), .bool be, .bool co]) (T := 28) (by simp) rfl) (by simp only [List.length_map, List.length_append, List.length_cons, List.length_nil, wSt_len]; have := HTL.out; omega) HB.out.gr.size ?_
                    intro v3 c23 ho hg hb
                    have hN := Lib.hid (HB.out.addP (ds := [(St.mk xk (m : Nat) be co)]) ho hg hb)
                    clear ho hg hb HB
                    have HB := hN
                    clear hN
                    refine hK.out _ _ (HB.out.four (K := Kb) (k := xk) (sz := (m : Nat)) (be := be) (co := co) (by simp)) (fun hHeld => ?_)
                    clear hK K
                    try simp only [Act.put, List.setIfInBounds_toArray, List.set_cons_zero, List.set_cons_succ]
                    refine wpAnyH_ready (rs := [9]) (by kernel_rfl) (by simp) ?_
                    refine AllReadyH.cons (o := { dst := some 97, op := Op.call { callee := Callee.builtin Builtin.append, args := #[Operand.tmp 92, Operand.tmp 96], argTypes := #[29, 29] }, type := 29, pos := "sessions.go:361", after := #[{ on := 4, ground := Ground.data }, { on := 8, ground := Ground.data }, { on := 3, ground := Ground.chain }], guard := none }) rfl (fun K hK => ?_) ?_
                    ·
                      refine wp_append_rowB _ _ (by rfl) Tryd.underlying29 stInfo rfl (by decide) (by decide) (by rfl) HB.out.q ([pkSt n, (St.mk xk (m : Nat) be co)].map St.cs) (st_all _) ⟨b8, 0, none⟩ 2 2 (by rfl) rfl (HB.out.cells (cs := [Value.int .i64 9, .int .i64 (n : Nat), .bool false, .bool false, .int .i64 xk, .int .i64 (m : Nat), .bool be, .bool co]) (T := 28) (by simp) rfl) (by simp only [List.length_map, List.length_append, List.length_cons, List.length_nil, wSt_len]; have := HTL.out; omega) HB.out.gr.size ?_
                      intro v9 c24 ho hg hb
                      have hN := Lib.hid (HB.out.addQ (ds := [pkSt n, (St.mk xk (m : Nat) be co)]) ho hg hb)
                      clear ho hg hb HB
                      have HB := hN
                      clear hN
                      refine hK.out _ _ (HB.out.four (K := Kb) (k := xk) (sz := (m : Nat)) (be := be) (co := co) (by simp)) (fun hHeld => ?_)
                      clear hK K
                      try simp only [Act.put, List.setIfInBounds_toArray, List.set_cons_zero, List.set_cons_succ]
                      refine wpAnyH_ready (rs := [13]) (by kernel_rfl) (by simp) ?_
                      refine AllReadyH.cons (o := { dst := some 101, op := Op.call { callee := Callee.builtin Builtin.append, args := #[Operand.tmp 98, Operand.tmp 100], argTypes := #[43, 43] }, type := 43, pos := "sessions.go:361", after := #[{ on := 10, ground := Ground.data }, { on := 12, ground := Ground.data }, { on := 9, ground := Ground.chain }], guard := none }) rfl (fun K hK => ?_) ?_
                      ·
                        obtain ⟨us, a1, a2, a3⟩ := HB.out.s.ex
                        have hu4 := HEU.out _ (fun z hz => (HB.out.e z (by simp [hz])).1)
                        have HUS := Lib.hid a1
                        refine wp_append_rowB _ _ (by rfl) Tryd.underlying43 u8sInfo rfl (by decide) (by decide) (by rfl) a2 [[.slice pz nz cz]] (sl_one _ _ _) ⟨b12, 0, none⟩ 1 1 (by rfl) rfl (HB.out.cells (cs := [Value.slice pz nz cz]) (T := 24) (by simp) rfl) (by rw [List.length_map, HUS.out]; simp only [List.length_cons, List.length_map]; have := HTL.out; omega) HB.out.gr.size ?_
                        intro v13 c25 ho hg hb
                        have hN := Lib.hid (HB.out.addS us a1 a2 a3 hu4 ho hg hb)
                        clear a2 a3 hu4 a1
                        clear ho hg hb HB
                        have HB := hN
                        clear hN
                        refine hK.out _ _ (HB.out.four (K := Kb) (k := xk) (sz := (m : Nat)) (be := be) (co := co) (by simp)) (fun hHeld => ?_)
                        clear hK K
                        try simp only [Act.put, List.setIfInBounds_toArray, List.set_cons_zero, List.set_cons_succ]
                        refine wpAnyH_take (i := 14) (oi := { dst := some 10, op := Op.assign (Operand.tmp 91), type := 29, pos := "sessions.go:361", after := #[{ on := 3, ground := Ground.data }, { on := 13, ground := Ground.chain }, { on := 0, ground := Ground.phase }, { on := 1, ground := Ground.phase }, { on := 2, ground := Ground.phase }, { on := 3, ground := Ground.phase }, { on := 4, ground := Ground.textOnly Departure.lateStores }, { on := 5, ground := Ground.textOnly Departure.lateStores }, { on := 6, ground := Ground.textOnly Departure.lateStores }, { on := 7, ground := Ground.textOnly Departure.lateStores }, { on := 8, ground := Ground.textOnly Departure.lateStores }, { on := 9, ground := Ground.textOnly Departure.lateStoresUnsure }, { on := 10, ground := Ground.textOnly Departure.lateStores }, { on := 11, ground := Ground.textOnly Departure.lateStores }, { on := 12, ground := Ground.textOnly Departure.lateStores }, { on := 13, ground := Ground.textOnly Departure.lateStoresUnsure }], guard := none }) (v := ?_) rfl (by kernel_rfl) (by kernel_rfl) (by kernel_rfl) (fun _ _ _ h => h) (Or.inl ⟨by rfl, ?_⟩) (by assumption) ?_
                        rotate_left
                        · (intro w hSw; (try dsimp only at hSw); go_simp; try with_reducible rfl)
                        try simp only [Act.put, List.setIfInBounds_toArray, List.set_cons_zero, List.set_cons_succ]
                        refine wpAnyH_take (i := 15) (oi := { dst := some 8, op := Op.assign (Operand.tmp 97), type := 29, pos := "sessions.go:361", after := #[{ on := 9, ground := Ground.data }, { on := 14, ground := Ground.chain }, { on := 0, ground := Ground.phase }, { on := 1, ground := Ground.phase }, { on := 2, ground := Ground.phase }, { on := 3, ground := Ground.phase }, { on := 4, ground := Ground.phase }, { on := 5, ground := Ground.phase }, { on := 6, ground := Ground.phase }, { on := 7, ground := Ground.phase }, { on := 8, ground := Ground.phase }, { on := 9, ground := Ground.phase }, { on := 10, ground := Ground.textOnly Departure.lateStores }, { on := 11, ground := Ground.textOnly Departure.lateStores }, { on := 12, ground := Ground.textOnly Departure.lateStores }, { on := 13, ground := Ground.textOnly Departure.lateStoresUnsure }, { on := 14, ground := Ground.phase }], guard := none }) (v := ?_) rfl (by kernel_rfl) (by kernel_rfl) (by kernel_rfl) (fun _ _ _ h => h) (Or.inl ⟨by rfl, ?_⟩) (by assumption) ?_
                        rotate_left
                        · (intro w hSw; (try dsimp only at hSw); go_simp; try with_reducible rfl)
                        try simp only [Act.put, List.setIfInBounds_toArray, List.set_cons_zero, List.set_cons_succ]
                        refine wpAnyH_take (i := 16) (oi := { dst := some 9, op := Op.assign (Operand.tmp 101), type := 43, pos := "sessions.go:361", after := #[{ on := 13, ground := Ground.data }, { on := 15, ground := Ground.chain }, { on := 0, ground := Ground.phase }, { on := 1, ground := Ground.phase }, { on := 2, ground := Ground.phase }, { on := 3, ground := Ground.phase }, { on := 4, ground := Ground.phase }, { on := 5, ground := Ground.phase }, { on := 6, ground := Ground.phase }, { on := 7, ground := Ground.phase }, { on := 8, ground := Ground.phase }, { on := 9, ground := Ground.phase }, { on := 10, ground := Ground.phase }, { on := 11, ground := Ground.phase }, { on := 12, ground := Ground.phase }, { on := 13, ground := Ground.phase }, { on := 14, ground := Ground.phase }, { on := 15, ground := Ground.phase }], guard := none }) (v := ?_) rfl (by kernel_rfl) (by kernel_rfl) (by kernel_rfl) (fun _ _ _ h => h) (Or.inl ⟨by rfl, ?_⟩) (by assumption) ?_
                        rotate_left
                        · (intro w hSw; (try dsimp only at hSw); go_simp; try with_reducible rfl)
                        try simp only [Act.put, List.setIfInBounds_toArray, List.set_cons_zero, List.set_cons_succ]
                        refine wpAnyH_done (by kernel_rfl) ?_ _
                        go_wp2_with fail
                        go_roundw
                        case rel => exact ⟨j + 1, ts ++ [Tr.mk (St.mk xk (m : Nat) be co) g n sh], q, by go_num, ⟨HB.out.next ts (Tr.mk (St.mk xk (m : Nat) be co) g n sh) (fun z hz => by simp [hz]), by omega, by rw [List.length_append]; simp; omega, HR1'.out, HR2'.out⟩⟩
                        case measure => simp [intOf]; omega
                      exact AllReadyH.nil
                    exact AllReadyH.nil
                  exact AllReadyH.nil
                exact AllReadyH.nil
              refine AllReadyH.cons (o := { dst := some 100, op := Op.buildSlice 43 1 #[(0, Operand.tmp 99)], type := 43, pos := "sessions.go:361", after := #[{ on := 11, ground := Ground.data }], guard := none }) rfl (fun K hK => ?_) ?_
              ·
                have hN : Hid (Bun w (c1.alloc (.cells #[Value.slice pz nz cz] 24)) r u10 u8 u9 (ts.map Tr.x) (pkSt n0 :: wSt ts) (s0 :: ts.map Tr.s) q ((c1.heap.size, [Value.slice pz nz cz], 24) :: (b2, [Value.int .i64 xk, .int .i64 (m : Nat), .bool be, .bool co], 28) :: exU ++ (Kb, [Value.int .i64 xk, .int .i64 (m : Nat), .bool be, .bool co], 28) :: exs)) := Lib.hid (HB.out.new [Value.slice pz nz cz] 24)
                clear HB
                have HB := hN
                clear hN
                go_simp
                generalize c1.heap.size = b12 at *
                generalize hcc : c1.alloc (.cells #[Value.slice pz nz cz] 24) = c26 at *
                clear hcc
                refine hK.out _ _ (HB.out.four (K := Kb) (k := xk) (sz := (m : Nat)) (be := be) (co := co) (by simp)) (fun hHeld => ?_)
                clear hK K
                try simp only [Act.put, List.setIfInBounds_toArray, List.set_cons_zero, List.set_cons_succ]
                refine wpAnyH_ready (rs := [3, 8]) (by kernel_rfl) (by simp) ?_
                refine AllReadyH.cons (o := { dst := some 91, op := Op.call { callee := Callee.builtin Builtin.append, args := #[Operand.tmp 88, Operand.tmp 90], argTypes := #[29, 29] }, type := 29, pos := "sessions.go:361", after := #[{ on := 0, ground := Ground.data }, { on := 2, ground := Ground.data }], guard := none }) rfl (fun K hK => ?_) ?_
                ·
                  refine wp_append_rowB _ _ (by rfl) Tryd.underlying29 stInfo rfl (by decide) (by decide) (by rfl) HB.out.p ([(St.mk xk (m : Nat) be co)].map St.cs) (st_all _) ⟨b2, 0, none⟩ 1 1 (by rfl) rfl (HB.out.cells (cs := [Value.int .i64 xk, .int .i64 (m : Nat), .bool be, .bool co]) (T := 28) (by simp) rfl) (by simp only [List.length_map, List.length_append, List.length_cons, List.length_nil, wSt_len]; have := HTL.out; omega) HB.out.gr.size ?_
                  intro v3 c27 ho hg hb
                  have hN := Lib.hid (HB.out.addP (ds := [(St.mk xk (m : Nat) be co)]) ho hg hb)
                  clear ho hg hb HB
                  have HB := hN
                  clear hN
                  refine hK.out _ _ (HB.out.four (K := Kb) (k := xk) (sz := (m : Nat)) (be := be) (co := co) (by simp)) (fun hHeld => ?_)
                  clear hK K
                  try simp only [Act.put, List.setIfInBounds_toArray, List.set_cons_zero, List.set_cons_succ]
                  refine wpAnyH_ready (rs := [8]) (by kernel_rfl) (by simp) ?_
                  refine AllReadyH.cons (o := { dst := some 96, op := Op.buildSlice 29 2 #[(0, Operand.tmp 94), (1, Operand.tmp 95)], type := 29, pos := "sessions.go:361", after := #[{ on := 6, ground := Ground.data }, { on := 7, ground := Ground.data }], guard := none }) rfl (fun K hK => ?_) ?_
                  ·
                    have hN : Hid (Bun w (c27.alloc (.cells #[Value.int .i64 9, .int .i64 (n : Nat), .bool false, .bool false, .int .i64 xk, .int .i64 (m : Nat), .bool be, .bool co] 28)) r v3 u8 u9 (ts.map Tr.x ++ [(St.mk xk (m : Nat) be co)]) (pkSt n0 :: wSt ts) (s0 :: ts.map Tr.s) q ((c27.heap.size, [Value.int .i64 9, .int .i64 (n : Nat), .bool false, .bool false, .int .i64 xk, .int .i64 (m : Nat), .bool be, .bool co], 28) :: (b12, [Value.slice pz nz cz], 24) :: (b2, [Value.int .i64 xk, .int .i64 (m : Nat), .bool be, .bool co], 28) :: exU ++ (Kb, [Value.int .i64 xk, .int .i64 (m : Nat), .bool be, .bool co], 28) :: exs)) := Lib.hid (HB.out.new [Value.int .i64 9, .int .i64 (n : Nat), .bool false, .bool false, .int .i64 xk, .int .i64 (m : Nat), .bool be, .bool co] 28)
                    clear HB
                    have HB := hN
                    clear hN
                    go_simp
                    generalize c27.heap.size = b8 at *
                    generalize hcc : c27.alloc (.cells #[Value.int .i64 9, .int .i64 (n : Nat), .bool false, .bool false, .int .i64 xk, .int .i64 (m : Nat), .bool be, .bool co] 28) = c28 at *
                    clear hcc
                    refine hK.out _ _ (HB.out.four (K := Kb) (k := xk) (sz := (m : Nat)) (be := be) (co := co) (by simp)) (fun hHeld => ?_)
                    clear hK K
                    try simp only [Act.put, List.setIfInBounds_toArray, List.set_cons_zero, List.set_cons_succ]
                    refine wpAnyH_ready (rs := [9]) (by kernel_rfl) (by simp) ?_
                    refine AllReadyH.cons (o := { dst := some 97, op := Op.call { callee := Callee.builtin Builtin.append, args := #[Operand.tmp 92, Operand.tmp 96], argTypes := #[29, 29] }, type := 29, pos := "sessions.go:361", after := #[{ on := 4, ground := Ground.data }, { on := 8, ground := Ground.data }, { on := 3, ground := Ground.chain }], guard := none }) rfl (fun K hK => ?_) ?_
                    ·
                      refine wp_append_rowB _ _ (by rfl) Tryd.underlying29 stInfo rfl (by decide) (by decide) (by rfl) HB.out.q ([pkSt n, (St.mk xk (m : Nat) be co)].map St.cs) (st_all _) ⟨b8, 0, none⟩ 2 2 (by rfl) rfl (HB.out.cells (cs := [Value.int .i64 9, .int .i64 (n : Nat), .bool false, .bool false, .int .i64 xk, .int .i64 (m : Nat), .bool be, .bool co]) (T := 28) (by simp) rfl) (by simp only [List.length_map, List.length_append, List.length_cons, List.length_nil, wSt_len]; have := HTL.out; omega) HB.out.gr.size ?_
                      intro v9 c29 ho hg hb
                      have hN := Lib.hid (HB.out.addQ (ds := [pkSt n, (St.mk xk (m : Nat) be co)]) ho hg hb)
                      clear ho hg hb HB
                      have HB := hN
                      clear hN
                      refine hK.out _ _ (HB.out.four (K := Kb) (k := xk) (sz := (m : Nat)) (be := be) (co := co) (by simp)) (fun hHeld => ?_)
                      clear hK K
                      try simp only [Act.put, List.setIfInBounds_toArray, List.set_cons_zero, List.set_cons_succ]
                      refine wpAnyH_ready (rs := [13]) (by kernel_rfl) (by simp) ?_
                      refine AllReadyH.cons (o := { dst := some 101, op := Op.call { callee := Callee.builtin Builtin.append, args := #[Operand.tmp 98, Operand.tmp 100], argTypes := #[43, 43] }, type := 43, pos := "sessions.go:361", after := #[{ on := 10, ground := Ground.data }, { on := 12, ground := Ground.data }, { on := 9, ground := Ground.chain }], guard := none }) rfl (fun K hK => ?_) ?_
                      ·
                        obtain ⟨us, a1, a2, a3⟩ := HB.out.s.ex
                        have hu4 := HEU.out _ (fun z hz => (HB.out.e z (by simp [hz])).1)
                        have HUS := Lib.hid a1
                        refine wp_append_rowB _ _ (by rfl) Tryd.underlying43 u8sInfo rfl (by decide) (by decide) (by rfl) a2 [[.slice pz nz cz]] (sl_one _ _ _) ⟨b12, 0, none⟩ 1 1 (by rfl) rfl (HB.out.cells (cs := [Value.slice pz nz cz]) (T := 24) (by simp) rfl) (by rw [List.length_map, HUS.out]; simp only [List.length_cons, List.length_map]; have := HTL.out; omega) HB.out.gr.size ?_
                        intro v13 c30 ho hg hb
                        have hN := Lib.hid (HB.out.addS us a1 a2 a3 hu4 ho hg hb)
                        clear a2 a3 hu4 a1
                        clear ho hg hb HB
                        have HB := hN
                        clear hN
                        refine hK.out _ _ (HB.out.four (K := Kb) (k := xk) (sz := (m : Nat)) (be := be) (co := co) (by simp)) (fun hHeld => ?_)
                        clear hK K
                        try simp only [Act.put, List.setIfInBounds_toArray, List.set_cons_zero, List.set_cons_succ]
                        refine wpAnyH_take (i := 14) (oi := { dst := some 10, op := Op.assign (Operand.tmp 91), type := 29, pos := "sessions.go:361", after := #[{ on := 3, ground := Ground.data }, { on := 13, ground := Ground.chain }, { on := 0, ground := Ground.phase }, { on := 1, ground := Ground.phase }, { on := 2, ground := Ground.phase }, { on := 3, ground := Ground.phase }, { on := 4, ground := Ground.textOnly Departure.lateStores }, { on := 5, ground := Ground.textOnly Departure.lateStores }, { on := 6, ground := Ground.textOnly Departure.lateStores }, { on := 7, ground := Ground.textOnly Departure.lateStores }, { on := 8, ground := Ground.textOnly Departure.lateStores }, { on := 9, ground := Ground.textOnly Departure.lateStoresUnsure }, { on := 10, ground := Ground.textOnly Departure.lateStores }, { on := 11, ground := Ground.textOnly Departure.lateStores }, { on := 12, ground := Ground.textOnly Departure.lateStores }, { on := 13, ground := Ground.textOnly Departure.lateStoresUnsure }], guard := none }) (v := ?_) rfl (by kernel_rfl) (by kernel_rfl) (by kernel_rfl) (fun _ _ _ h => h) (Or.inl ⟨by rfl, ?_⟩) (by assumption) ?_
                        rotate_left
                        · (intro w hSw; (try dsimp only at hSw); go_simp; try with_reducible rfl)
                        try simp only [Act.put, List.setIfInBounds_toArray, List.set_cons_zero, List.set_cons_succ]
                        refine wpAnyH_take (i := 15) (oi := { dst := some 8, op := Op.assign (Operand.tmp 97), type := 29, pos := "sessions.go:361", after := #[{ on := 9, ground := Ground.data }, { on := 14, ground := Ground.chain }, { on := 0, ground := Ground.phase }, { on := 1, ground := Ground.phase }, { on := 2, ground := Ground.phase }, { on := 3, ground := Ground.phase }, { on := 4, ground := Ground.phase }, { on := 5, ground := Ground.phase }, { on := 6, ground := Ground.phase }, { on := 7, ground := Ground.phase }, { on := 8, ground := Ground.phase }, { on := 9, ground := Ground.phase }, { on := 10, ground := Ground.textOnly Departure.lateStores }, { on := 11, ground := Ground.textOnly Departure.lateStores }, { on := 12, ground := Ground.textOnly Departure.lateStores }, { on := 13, ground := Ground.textOnly Departure.lateStoresUnsure }, { on := 14, ground := Ground.phase }], guard := none }) (v := ?_) rfl (by kernel_rfl) (by kernel_rfl) (by kernel_rfl) (fun _ _ _ h => h) (Or.inl ⟨by rfl, ?_⟩) (by assumption) ?_
                        rotate_left
                        · (intro w hSw; (try dsimp only at hSw); go_simp; try with_reducible rfl)
                        try simp only [Act.put, List.setIfInBounds_toArray, List.set_cons_zero, List.set_cons_succ]
                        refine wpAnyH_take (i := 16) (oi := { dst := some 9, op := Op.assign (Operand.tmp 101), type := 43, pos := "sessions.go:361", after := #[{ on := 13, ground := Ground.data }, { on := 15, ground := Ground.chain }, { on := 0, ground := Ground.phase }, { on := 1, ground := Ground.phase }, { on := 2, ground := Ground.phase }, { on := 3, ground := Ground.phase }, { on := 4, ground := Ground.phase }, { on := 5, ground := Ground.phase }, { on := 6, ground := Ground.phase }, { on := 7, ground := Ground.phase }, { on := 8, ground := Ground.phase }, { on := 9, ground := Ground.phase }, { on := 10, ground := Ground.phase }, { on := 11, ground := Ground.phase }, { on := 12, ground := Ground.phase }, { on := 13, ground := Ground.phase }, { on := 14, ground := Ground.phase }, { on := 15, ground := Ground.phase }], guard := none }) (v := ?_) rfl (by kernel_rfl) (by kernel_rfl) (by kernel_rfl) (fun _ _ _ h => h) (Or.inl ⟨by rfl, ?_⟩) (by assumption) ?_
                        rotate_left
                        · (intro w hSw; (try dsimp only at hSw); go_simp; try with_reducible rfl)
                        try simp only [Act.put, List.setIfInBounds_toArray, List.set_cons_zero, List.set_cons_succ]
                        refine wpAnyH_done (by kernel_rfl) ?_ _
                        go_wp2_with fail
                        go_roundw
                        case rel => exact ⟨j + 1, ts ++ [Tr.mk (St.mk xk (m : Nat) be co) g n sh], q, by go_num, ⟨HB.out.next ts (Tr.mk (St.mk xk (m : Nat) be co) g n sh) (fun z hz => by simp [hz]), by omega, by rw [List.length_append]; simp; omega, HR1'.out, HR2'.out⟩⟩
                        case measure => simp [intOf]; omega
                      exact AllReadyH.nil
                    exact AllReadyH.nil
                  exact AllReadyH.nil
                refine AllReadyH.cons (o := { dst := some 96, op := Op.buildSlice 29 2 #[(0, Operand.tmp 94), (1, Operand.tmp 95)], type := 29, pos := "sessions.go:361", after := #[{ on := 6, ground := Ground.data }, { on := 7, ground := Ground.data }], guard := none }) rfl (fun K hK => ?_) ?_
                ·
                  have hN : Hid (Bun w (c26.alloc (.cells #[Value.int .i64 9, .int .i64 (n : Nat), .bool false, .bool false, .int .i64 xk, .int .i64 (m : Nat), .bool be, .bool co] 28)) r u10 u8 u9 (ts.map Tr.x) (pkSt n0 :: wSt ts) (s0 :: ts.map Tr.s) q ((c26.heap.size, [Value.int .i64 9, .int .i64 (n : Nat), .bool false, .bool false, .int .i64 xk, .int .i64 (m : Nat), .bool be, .bool co], 28) :: (b12, [Value.slice pz nz cz], 24) :: (b2, [Value.int .i64 xk, .int .i64 (m : Nat), .bool be, .bool co], 28) :: exU ++ (Kb, [Value.int .i64 xk, .int .i64 (m : Nat), .bool be, .bool co], 28) :: exs)) := Lib.hid (HB.out.new [Value.int .i64 9, .int .i64 (n : Nat), .bool false, .bool false, .int .i64 xk, .int .i64 (m : Nat), .bool be, .bool co] 28)
                  clear HB
                  have HB := hN
                  clear hN
                  go_simp
                  generalize c26.heap.size = b8 at *
                  generalize hcc : c26.alloc (.cells #[Value.int .i64 9, .int .i64 (n : Nat), .bool false, .bool false, .int .i64 xk, .int .i64 (m : Nat), .bool be, .bool co] 28) = c31 at *
                  clear hcc
                  refine hK.out _ _ (HB.out.four (K := Kb) (k := xk) (sz := (m : Nat)) (be := be) (co := co) (by simp)) (fun hHeld => ?_)
                  clear hK K
                  try simp only [Act.put, List.setIfInBounds_toArray, List.set_cons_zero, List.set_cons_succ]
                  refine wpAnyH_ready (rs := [3]) (by kernel_rfl) (by simp) ?_
                  refine AllReadyH.cons (o := { dst := some 91, op := Op.call { callee := Callee.builtin Builtin.append, args := #[Operand.tmp 88, Operand.tmp 90], argTypes := #[29, 29] }, type := 29, pos := "sessions.go:361", after := #[{ on := 0, ground := Ground.data }, { on := 2, ground := Ground.data }], guard := none }) rfl (fun K hK => ?_) ?_
                  ·
                    refine wp_append_rowB _ _ (by rfl) Tryd.underlying29 stInfo rfl (by decide) (by decide) (by rfl) HB.out.p ([(St.mk xk (m : Nat) be co)].map St.cs) (st_all _) ⟨b2, 0, none⟩ 1 1 (by rfl) rfl (HB.out.cells (cs := [Value.int .i64 xk, .int .i64 (m : Nat), .bool be, .bool co]) (T := 28) (by simp) rfl) (by simp only [List.length_map, List.length_append, List.length_cons, List.length_nil, wSt_len]; have := HTL.out; omega) HB.out.gr.size ?_
                    intro v3 c32 ho hg hb
                    have hN := Lib.hid (HB.out.addP (ds := [(St.mk xk (m : Nat) be co)]) ho hg hb)
                    clear ho hg hb HB
                    have HB := hN
                    clear hN
                    refine hK.out _ _ (HB.out.four (K := Kb) (k := xk) (sz := (m : Nat)) (be := be) (co := co) (by simp)) (fun hHeld => ?_)
                    clear hK K
                    try simp only [Act.put, List.setIfInBounds_toArray, List.set_cons_zero, List.set_cons_succ]
                    refine wpAnyH_ready (rs := [9]) (by kernel_rfl) (by simp) ?_
                    refine AllReadyH.cons (o := { dst := some 97, op := Op.call { callee := Callee.builtin Builtin.append, args := #[Operand.tmp 92, Operand.tmp 96], argTypes := #[29, 29] }, type := 29, pos := "sessions.go:361", after := #[{ on := 4, ground := Ground.data }, { on := 8, ground := Ground.data }, { on := 3, ground := Ground.chain }], guard := none }) rfl (fun K hK => ?_) ?_
                    ·
                      refine wp_append_rowB _ _ (by rfl) Tryd.underlying29 stInfo rfl (by decide) (by decide) (by rfl) HB.out.q ([pkSt n, (St.mk xk (m : Nat) be co)].map St.cs) (st_all _) ⟨b8, 0, none⟩ 2 2 (by rfl) rfl (HB.out.cells (cs := [Value.int .i64 9, .int .i64 (n : Nat), .bool false, .bool false, .int .i64 xk, .int .i64 (m : Nat), .bool be, .bool co]) (T := 28) (by simp) rfl) (by simp only [List.length_map, List.length_append, List.length_cons, List.length_nil, wSt_len]; have := HTL.out; omega) HB.out.gr.size ?_
                      intro v9 c33 ho hg hb
                      have hN := Lib.hid (HB.out.addQ (ds := [pkSt n, (St.mk xk (m : Nat) be co)]) ho hg hb)
                      clear ho hg hb HB
                      have HB := hN
                      clear hN
                      refine hK.out _ _ (HB.out.four (K := Kb) (k := xk) (sz := (m : Nat)) (be := be) (co := co) (by simp)) (fun hHeld => ?_)
                      clear hK K
                      try simp only [Act.put, List.setIfInBounds_toArray, List.set_cons_zero, List.set_cons_succ]
                      refine wpAnyH_ready (rs := [13]) (by kernel_rfl) (by simp) ?_
                      refine AllReadyH.cons (o := { dst := some 101, op := Op.call { callee := Callee.builtin Builtin.append, args := #[Operand.tmp 98, Operand.tmp 100], argTypes := #[43, 43] }, type := 43, pos := "sessions.go:361", after := #[{ on := 10, ground := Ground.data }, { on := 12, ground := Ground.data }, { on := 9, ground := Ground.chain }], guard := none }) rfl (fun K hK => ?_) ?_
                      ·
                        obtain ⟨us, a1, a2, a3⟩ := HB.out.s.ex
                        have hu4 := HEU.out _ (fun z hz => (HB.out.e z (by simp [hz])).1)
                        have HUS := Lib.hid a1
                        refine wp_append_rowB _ _ (by rfl) Tryd.underlying43 u8sInfo rfl (by decide) (by decide) (by rfl) a2 [[.slice pz nz cz]] (sl_one _ _ _) ⟨b12, 0, none⟩ 1 1 (by rfl) rfl (HB.out.cells (cs := [Value.slice pz nz cz]) (T := 24) (by simp) rfl) (by rw [List.length_map, HUS.out]; simp only [List.length_cons, List.length_map]; have := HTL.out; omega) HB.out.gr.size ?_
                        intro v13 c34 ho hg hb
                        have hN := Lib.hid (HB.out.addS us a1 a2 a3 hu4 ho hg hb)
                        clear a2 a3 hu4 a1
                        clear ho hg hb HB
                        have HB := hN
                        clear hN
                        refine hK.out _ _ (HB.out.four (K := Kb) (k := xk) (sz := (m : Nat)) (be := be) (co := co) (by simp)) (fun hHeld => ?_)
                        clear hK K
                        try simp only [Act.put, List.setIfInBounds_toArray, List.set_cons_zero, List.set_cons_succ]
                        refine wpAnyH_take (i := 14) (oi := { dst := some 10, op := Op.assign (Operand.tmp 91), type := 29, pos := "sessions.go:361", after := #[{ on := 3, ground := Ground.data }, { on := 13, ground := Ground.chain }, { on := 0, ground := Ground.phase }, { on := 1, ground := Ground.phase }, { on := 2, ground := Ground.phase }, { on := 3, ground := Ground.phase }, { on := 4, ground := Ground.textOnly Departure.lateStores }, { on := 5, ground := Ground.textOnly Departure.lateStores }, { on := 6, ground := Ground.textOnly Departure.lateStores }, { on := 7, ground := Ground.textOnly Departure.lateStores }, { on := 8, ground := Ground.textOnly Departure.lateStores }, { on := 9, ground := Ground.textOnly Departure.lateStoresUnsure }, { on := 10, ground := Ground.textOnly Departure.lateStores }, { on := 11, ground := Ground.textOnly Departure.lateStores }, { on := 12, ground := Ground.textOnly Departure.lateStores }, { on := 13, ground := Ground.textOnly Departure.lateStoresUnsure }], guard := none }) (v := ?_) rfl (by kernel_rfl) (by kernel_rfl) (by kernel_rfl) (fun _ _ _ h => h) (Or.inl ⟨by rfl, ?_⟩) (by assumption) ?_
                        rotate_left
                        · (intro w hSw; (try dsimp only at hSw); go_simp; try with_reducible rfl)
                        try simp only [Act.put, List.setIfInBounds_toArray, List.set_cons_zero, List.set_cons_succ]
                        refine wpAnyH_take (i := 15) (oi := { dst := some 8, op := Op.assign (Operand.tmp 97), type := 29, pos := "sessions.go:361", after := #[{ on := 9, ground := Ground.data }, { on := 14, ground := Ground.chain }, { on := 0, ground := Ground.phase }, { on := 1, ground := Ground.phase }, { on := 2, ground := Ground.phase }, { on := 3, ground := Ground.phase }, { on := 4, ground := Ground.phase }, { on := 5, ground := Ground.phase }, { on := 6, ground := Ground.phase }, { on := 7, ground := Ground.phase }, { on := 8, ground := Ground.phase }, { on := 9, ground := Ground.phase }, { on := 10, ground := Ground.textOnly Departure.lateStores }, { on := 11, ground := Ground.textOnly Departure.lateStores }, { on := 12, ground := Ground.textOnly Departure.lateStores }, { on := 13, ground := Ground.textOnly Departure.lateStoresUnsure }, { on := 14, ground := Ground.phase }], guard := none }) (v := ?_) rfl (by kernel_rfl) (by kernel_rfl) (by kernel_rfl) (fun _ _ _ h => h) (Or.inl ⟨by rfl, ?_⟩) (by assumption) ?_
                        rotate_left
                        · (intro w hSw; (try dsimp only at hSw); go_simp; try with_reducible rfl)
                        try simp only [Act.put, List.setIfInBounds_toArray, List.set_cons_zero, List.set_cons_succ]
                        refine wpAnyH_take (i := 16) (oi := { dst := some 9, op := Op.assign (Operand.tmp 101), type := 43, pos := "sessions.go:361", after := #[{ on := 13, ground := Ground.data }, { on := 15, ground := Ground.chain }, { on := 0, ground := Ground.phase }, { on := 1, ground := Ground.phase }, { on := 2, ground := Ground.phase }, { on := 3, ground := Ground.phase }, { on := 4, ground := Ground.phase }, { on := 5, ground := Ground.phase }, { on := 6, ground := Ground.phase }, { on := 7, ground := Ground.phase }, { on := 8, ground := Ground.phase }, { on := 9, ground := Ground.phase }, { on := 10, ground := Ground.phase }, { on := 11, ground := Ground.phase }, { on := 12, ground := Ground.phase }, { on := 13, ground := Ground.phase }, { on := 14, ground := Ground.phase }, { on := 15, ground := Ground.phase }], guard := none }) (v := ?_) rfl (by kernel_rfl) (by kernel_rfl) (by kernel_rfl) (fun _ _ _ h => h) (Or.inl ⟨by rfl, ?_⟩) (by assumption) ?_
                        rotate_left
                        · (intro w hSw; (try dsimp only at hSw); go_simp; try with_reducible rfl)
                        try simp only [Act.put, List.setIfInBounds_toArray, List.set_cons_zero, List.set_cons_succ]
                        refine wpAnyH_done (by kernel_rfl) ?_ _
                        go_wp2_with fail
                        go_roundw
                        case rel => exact ⟨j + 1, ts ++ [Tr.mk (St.mk xk (m : Nat) be co) g n sh], q, by go_num, ⟨HB.out.next ts (Tr.mk (St.mk xk (m : Nat) be co) g n sh) (fun z hz => by simp [hz]), by omega, by rw [List.length_append]; simp; omega, HR1'.out, HR2'.out⟩⟩
                        case measure => simp [intOf]; omega
                      exact AllReadyH.nil
                    exact AllReadyH.nil
                  exact AllReadyH.nil
                exact AllReadyH.nil
              exact AllReadyH.nil
            refine AllReadyH.cons (o := { dst := some 96, op := Op.buildSlice 29 2 #[(0, Operand.tmp 94), (1, Operand.tmp 95)], type := 29, pos := "sessions.go:361", after := #[{ on := 6, ground := Ground.data }, { on := 7, ground := Ground.data }], guard := none }) rfl (fun K hK => ?_) ?_
            ·
              have hN : Hid (Bun w (c0.alloc (.cells #[Value.int .i64 9, .int .i64 (n : Nat), .bool false, .bool false, .int .i64 xk, .int .i64 (m : Nat), .bool be, .bool co] 28)) r u10 u8 u9 (ts.map Tr.x) (pkSt n0 :: wSt ts) (s0 :: ts.map Tr.s) q ((c0.heap.size, [Value.int .i64 9, .int .i64 (n : Nat), .bool false, .bool false, .int .i64 xk, .int .i64 (m : Nat), .bool be, .bool co], 28) :: exU ++ (Kb, [Value.int .i64 xk, .int .i64 (m : Nat), .bool be, .bool co], 28) :: exs)) := Lib.hid (HB.out.new [Value.int .i64 9, .int .i64 (n : Nat), .bool false, .bool false, .int .i64 xk, .int .i64 (m : Nat), .bool be, .bool co] 28)
              clear HB
              have HB := hN
              clear hN
              go_simp
              generalize c0.heap.size = b8 at *
              generalize hcc : c0.alloc (.cells #[Value.int .i64 9, .int .i64 (n : Nat), .bool false, .bool false, .int .i64 xk, .int .i64 (m : Nat), .bool be, .bool co] 28) = c35 at *
              clear hcc
              refine hK.out _ _ (HB.out.four (K := Kb) (k := xk) (sz := (m : Nat)) (be := be) (co := co) (by simp)) (fun hHeld => ?_)
              clear hK K
              try simp only [Act.put, List.setIfInBounds_toArray, List.set_cons_zero, List.set_cons_succ]
              refine wpAnyH_ready (rs := [2, 12]) (by kernel_rfl) (by simp) ?_
              refine AllReadyH.cons (o := { dst := some 90, op := Op.buildSlice 29 1 #[(0, Operand.tmp 89)], type := 29, pos := "sessions.go:361", after := #[{ on := 1, ground := Ground.data }], guard := none }) rfl (fun K hK => ?_) ?_
              ·
                have hN : Hid (Bun w (c35.alloc (.cells #[Value.int .i64 xk, .int .i64 (m : Nat), .bool be, .bool co] 28)) r u10 u8 u9 (ts.map Tr.x) (pkSt n0 :: wSt ts) (s0 :: ts.map Tr.s) q ((c35.heap.size, [Value.int .i64 xk, .int .i64 (m : Nat), .bool be, .bool co], 28) :: (b8, [Value.int .i64 9, .int .i64 (n : Nat), .bool false, .bool false, .int .i64 xk, .int .i64 (m : Nat), .bool be, .bool co], 28) :: exU ++ (Kb, [Value.int .i64 xk, .int .i64 (m : Nat), .bool be, .bool co], 28) :: exs)) := Lib.hid (HB.out.new [Value.int .i64 xk, .int .i64 (m : Nat), .bool be, .bool co] 28)
                clear HB
                have HB := hN
                clear hN
                go_simp
                generalize c35.heap.size = b2 at *
                generalize hcc : c35.alloc (.cells #[Value.int .i64 xk, .int .i64 (m : Nat), .bool be, .bool co] 28) = c36 at *
                clear hcc
                refine hK.out _ _ (HB.out.four (K := Kb) (k := xk) (sz := (m : Nat)) (be := be) (co := co) (by simp)) (fun hHeld => ?_)
                clear hK K
                try simp only [Act.put, List.setIfInBounds_toArray, List.set_cons_zero, List.set_cons_succ]
                refine wpAnyH_ready (rs := [3, 12]) (by kernel_rfl) (by simp) ?_
                refine AllReadyH.cons (o := { dst := some 91, op := Op.call { callee := Callee.builtin Builtin.append, args := #[Operand.tmp 88, Operand.tmp 90], argTypes := #[29, 29] }, type := 29, pos := "sessions.go:361", after := #[{ on := 0, ground := Ground.data }, { on := 2, ground := Ground.data }], guard := none }) rfl (fun K hK => ?_) ?_
                ·
                  refine wp_append_rowB _ _ (by rfl) Tryd.underlying29 stInfo rfl (by decide) (by decide) (by rfl) HB.out.p ([(St.mk xk (m : Nat) be co)].map St.cs) (st_all _) ⟨b2, 0, none⟩ 1 1 (by rfl) rfl (HB.out.cells (cs := [Value.int .i64 xk, .int .i64 (m : Nat), .bool be, .bool co]) (T := 28) (by simp) rfl) (by simp only [List.length_map, List.length_append, List.length_cons, List.length_nil, wSt_len]; have := HTL.out; omega) HB.out.gr.size ?_
                  intro v3 c37 ho hg hb
                  have hN := Lib.hid (HB.out.addP (ds := [(St.mk xk (m : Nat) be co)]) ho hg hb)
                  clear ho hg hb HB
                  have HB := hN
                  clear hN
                  refine hK.out _ _ (HB.out.four (K := Kb) (k := xk) (sz := (m : Nat)) (be := be) (co := co) (by simp)) (fun hHeld => ?_)
                  clear hK K
                  try simp only [Act.put, List.setIfInBounds_toArray, List.set_cons_zero, List.set_cons_succ]
                  refine wpAnyH_ready (rs := [9, 12]) (by kernel_rfl) (by simp) ?_
                  refine AllReadyH.cons (o := { dst := some 97, op := Op.call { callee := Callee.builtin Builtin.append, args := #[Operand.tmp 92, Operand.tmp 96], argTypes := #[29, 29] }, type := 29, pos := "sessions.go:361", after := #[{ on := 4, ground := Ground.data }, { on := 8, ground := Ground.data }, { on := 3, ground := Ground.chain }], guard := none }) rfl (fun K hK => ?_) ?_
                  ·
                    refine wp_append_rowB _ _ (by rfl) Tryd.underlying29 stInfo rfl (by decide) (by decide) (by rfl) HB.out.q ([pkSt n, (St.mk xk (m : Nat) be co)].map St.cs) (st_all _) ⟨b8, 0, none⟩ 2 2 (by rfl) rfl (HB.out.cells (cs := [Value.int .i64 9, .int .i64 (n : Nat), .bool false, .bool false, .int .i64 xk, .int .i64 (m : Nat), .bool be, .bool co]) (T := 28) (by simp) rfl) (by simp only [List.length_map, List.length_append, List.length_cons, List.length_nil, wSt_len]; have := HTL.out; omega) HB.out.gr.size ?_
                    intro v9 c38 ho hg hb
                    have hN := Lib.hid (HB.out.addQ (ds := [pkSt n, (St.mk xk (m : Nat) be co)]) ho hg hb)
                    clear ho hg hb HB
                    have HB := hN
                    clear hN
                    refine hK.out _ _ (HB.out.four (K := Kb) (k := xk) (sz := (m : Nat)) (be := be) (co := co) (by simp)) (fun hHeld => ?_)
                    clear hK K
                    try simp only [Act.put, List.setIfInBounds_toArray, List.set_cons_zero, List.set_cons_succ]
                    refine wpAnyH_ready (rs := [12]) (by kernel_rfl) (by simp) ?_
                    refine AllReadyH.cons (o := { dst := some 100, op := Op.buildSlice 43 1 #[(0, Operand.tmp 99)], type := 43, pos := "sessions.go:361", after := #[{ on := 11, ground := Ground.data }], guard := none }) rfl (fun K hK => ?_) ?_
                    ·
                      have hN : Hid (Bun w (c38.alloc (.cells #[Value.slice pz nz cz] 24)) r v3 v9 u9 (ts.map Tr.x ++ [(St.mk xk (m : Nat) be co)]) (pkSt n0 :: wSt ts ++ [pkSt n, (St.mk xk (m : Nat) be co)]) (s0 :: ts.map Tr.s) q ((c38.heap.size, [Value.slice pz nz cz], 24) :: (b2, [Value.int .i64 xk, .int .i64 (m : Nat), .bool be, .bool co], 28) :: (b8, [Value.int .i64 9, .int .i64 (n : Nat), .bool false, .bool false, .int .i64 xk, .int .i64 (m : Nat), .bool be, .bool co], 28) :: exU ++ (Kb, [Value.int .i64 xk, .int .i64 (m : Nat), .bool be, .bool co], 28) :: exs)) := Lib.hid (HB.out.new [Value.slice pz nz cz] 24)
                      clear HB
                      have HB := hN
                      clear hN
                      go_simp
                      generalize c38.heap.size = b12 at *
                      generalize hcc : c38.alloc (.cells #[Value.slice pz nz cz] 24) = c39 at *
                      clear hcc
                      refine hK.out _ _ (HB.out.four (K := Kb) (k := xk) (sz := (m : Nat)) (be := be) (co := co) (by simp)) (fun hHeld => ?_)
                      clear hK K
                      try simp only [Act.put, List.setIfInBounds_toArray, List.set_cons_zero, List.set_cons_succ]
                      refine wpAnyH_ready (rs := [13]) (by kernel_rfl) (by simp) ?_
                      refine AllReadyH.cons (o := { dst := some 101, op := Op.call { callee := Callee.builtin Builtin.append, args := #[Operand.tmp 98, Operand.tmp 100], argTypes := #[43, 43] }, type := 43, pos := "sessions.go:361", after := #[{ on := 10, ground := Ground.data }, { on := 12, ground := Ground.data }, { on := 9, ground := Ground.chain }], guard := none }) rfl (fun K hK => ?_) ?_
                      ·
                        obtain ⟨us, a1, a2, a3⟩ := HB.out.s.ex
                        have hu4 := HEU.out _ (fun z hz => (HB.out.e z (by simp [hz])).1)
                        have HUS := Lib.hid a1
                        refine wp_append_rowB _ _ (by rfl) Tryd.underlying43 u8sInfo rfl (by decide) (by decide) (by rfl) a2 [[.slice pz nz cz]] (sl_one _ _ _) ⟨b12, 0, none⟩ 1 1 (by rfl) rfl (HB.out.cells (cs := [Value.slice pz nz cz]) (T := 24) (by simp) rfl) (by rw [List.length_map, HUS.out]; simp only [List.length_cons, List.length_map]; have := HTL.out; omega) HB.out.gr.size ?_
                        intro v13 c40 ho hg hb
                        have hN := Lib.hid (HB.out.addS us a1 a2 a3 hu4 ho hg hb)
                        clear a2 a3 hu4 a1
                        clear ho hg hb HB
                        have HB := hN
                        clear hN
                        refine hK.out _ _ (HB.out.four (K := Kb) (k := xk) (sz := (m : Nat)) (be := be) (co := co) (by simp)) (fun hHeld => ?_)
                        clear hK K
                        try simp only [Act.put, List.setIfInBounds_toArray, List.set_cons_zero, List.set_cons_succ]
                        refine wpAnyH_take (i := 14) (oi := { dst := some 10, op := Op.assign (Operand.tmp 91), type := 29, pos := "sessions.go:361", after := #[{ on := 3, ground := Ground.data }, { on := 13, ground := Ground.chain }, { on := 0, ground := Ground.phase }, { on := 1, ground := Ground.phase }, { on := 2, ground := Ground.phase }, { on := 3, ground := Ground.phase }, { on := 4, ground := Ground.textOnly Departure.lateStores }, { on := 5, ground := Ground.textOnly Departure.lateStores }, { on := 6, ground := Ground.textOnly Departure.lateStores }, { on := 7, ground := Ground.textOnly Departure.lateStores }, { on := 8, ground := Ground.textOnly Departure.lateStores }, { on := 9, ground := Ground.textOnly Departure.lateStoresUnsure }, { on := 10, ground := Ground.textOnly Departure.lateStores }, { on := 11, ground := Ground.textOnly Departure.lateStores }, { on := 12, ground := Ground.textOnly Departure.lateStores }, { on := 13, ground := Ground.textOnly Departure.lateStoresUnsure }], guard := none }) (v := ?_) rfl (by kernel_rfl) (by kernel_rfl) (by kernel_rfl) (fun _ _ _ h => h) (Or.inl ⟨by rfl, ?_⟩) (by assumption) ?_
                        rotate_left
                        · (intro w hSw; (try dsimp only at hSw); go_simp; try with_reducible rfl)
                        try simp only [Act.put, List.setIfInBounds_toArray, List.set_cons_zero, List.set_cons_succ]
                        refine wpAnyH_take (i := 15) (oi := { dst := some 8, op := Op.assign (Operand.tmp 97), type := 29, pos := "sessions.go:361", after := #[{ on := 9, ground := Ground.data }, { on := 14, ground := Ground.chain }, { on := 0, ground := Ground.phase }, { on := 1, ground := Ground.phase }, { on := 2, ground := Ground.phase }, { on := 3, ground := Ground.phase }, { on := 4, ground := Ground.phase }, { on := 5, ground := Ground.phase }, { on := 6, ground := Ground.phase }, { on := 7, ground := Ground.phase }, { on := 8, ground := Ground.phase }, { on := 9, ground := Ground.phase }, { on := 10, ground := Ground.textOnly Departure.lateStores }, { on := 11, ground := Ground.textOnly Departure.lateStores }, { on := 12, ground := Ground.textOnly Departure.lateStores }, { on := 13, ground := Ground.textOnly Departure.lateStoresUnsure }, { on := 14, ground := Ground.phase }], guard := none }) (v := ?_) rfl (by kernel_rfl) (by kernel_rfl) (by kernel_rfl) (fun _ _ _ h => h) (Or.inl ⟨by rfl, ?_⟩) (by assumption) ?_
                        rotate_left
                        · (intro w hSw; (try dsimp only at hSw); go_simp; try with_reducible rfl)
                        try simp only [Act.put, List.setIfInBounds_toArray, List.set_cons_zero, List.set_cons_succ]
                        refine wpAnyH_take (i := 16) (oi := { dst := some 9, op := Op.assign (Operand.tmp 101), type := 43, pos := "sessions.go:361", after := #[{ on := 13, ground := Ground.data }, { on := 15, ground := Ground.chain }, { on := 0, ground := Ground.phase }, { on := 1, ground := Ground.phase }, { on := 2, ground := Ground.phase }, { on := 3, ground := Ground.phase }, { on := 4, ground := Ground.phase }, { on := 5, ground := Ground.phase }, { on := 6, ground := Ground.phase }, { on := 7, ground := Ground.phase }, { on := 8, ground := Ground.phase }, { on := 9, ground := Ground.phase }, { on := 10, ground := Ground.phase }, { on := 11, ground := Ground.phase }, { on := 12, ground := Ground.phase }, { on := 13, ground := Ground.phase }, { on := 14, ground := Ground.phase }, { on := 15, ground := Ground.phase }], guard := none }) (v := ?_) rfl (by kernel_rfl) (by kernel_rfl) (by kernel_rfl) (fun _ _ _ h => h) (Or.inl ⟨by rfl, ?_⟩) (by assumption) ?_
                        rotate_left
                        · (intro w hSw; (try dsimp only at hSw); go_simp; try with_reducible rfl)
                        try simp only [Act.put, List.setIfInBounds_toArray, List.set_cons_zero, List.set_cons_succ]
                        refine wpAnyH_done (by kernel_rfl) ?_ _
                        go_wp2_with fail
                        go_roundw
                        case rel => exact ⟨j + 1, ts ++ [Tr.mk (St.mk xk (m : Nat) be co) g n sh], q, by go_num, ⟨HB.out.next ts (Tr.mk (St.mk xk (m : Nat) be co) g n sh) (fun z hz => by simp [hz]), by omega, by rw [List.length_append]; simp; omega, HR1'.out, HR2'.out⟩⟩
                        case measure => simp [intOf]; omega
                      exact AllReadyH.nil
                    exact AllReadyH.nil
                  refine AllReadyH.cons (o := { dst := some 100, op := Op.buildSlice 43 1 #[(0, Operand.tmp 99)], type := 43, pos := "sessions.go:361", after := #[{ on := 11, ground := Ground.data }], guard := none }) rfl (fun K hK => ?_) ?_
                  ·
                    have hN : Hid (Bun w (c37.alloc (.cells #[Value.slice pz nz cz] 24)) r v3 u8 u9 (ts.map Tr.x ++ [(St.mk xk (m : Nat) be co)]) (pkSt n0 :: wSt ts) (s0 :: ts.map Tr.s) q ((c37.heap.size, [Value.slice pz nz cz], 24) :: (b2, [Value.int .i64 xk, .int .i64 (m : Nat), .bool be, .bool co], 28) :: (b8, [Value.int .i64 9, .int .i64 (n : Nat), .bool false, .bool false, .int .i64 xk, .int .i64 (m : Nat), .bool be, .bool co], 28) :: exU ++ (Kb, [Value.int .i64 xk, .int .i64 (m : Nat), .bool be, .bool co], 28) :: exs)) := Lib.hid (HB.out.new [Value.slice pz nz cz] 24)
                    clear HB
                    have HB := hN
                    clear hN
                    go_simp
                    generalize c37.heap.size = b12 at *
                    generalize hcc : c37.alloc (.cells #[Value.slice pz nz cz] 24) = c41 at *
                    clear hcc
                    refine hK.out _ _ (HB.out.four (K := Kb) (k := xk) (sz := (m : Nat)) (be := be) (co := co) (by simp)) (fun hHeld => ?_)
                    clear hK K
                    try simp only [Act.put, List.setIfInBounds_toArray, List.set_cons_zero, List.set_cons_succ]
                    refine wpAnyH_ready (rs := [9]) (by kernel_rfl) (by simp) ?_
                    refine AllReadyH.cons (o := { dst := some 97, op := Op.call { callee := Callee.builtin Builtin.append, args := #[Operand.tmp 92, Operand.tmp 96], argTypes := #[29, 29] }, type := 29, pos := "sessions.go:361", after := #[{ on := 4, ground := Ground.data }, { on := 8, ground := Ground.data }, { on := 3, ground := Ground.chain }], guard := none }) rfl (fun K hK => ?_) ?_
                    ·
                      refine wp_append_rowB _ _ (by rfl) Tryd.underlying29 stInfo rfl (by decide) (by decide) (by rfl) HB.out.q ([pkSt n, (St.mk xk (m : Nat) be co)].map St.cs) (st_all _) ⟨b8, 0, none⟩ 2 2 (by rfl) rfl (HB.out.cells (cs := [Value.int .i64 9, .int .i64 (n : Nat), .bool false, .bool false, .int .i64 xk, .int .i64 (m : Nat), .bool be, .bool co]) (T := 28) (by simp) rfl) (by simp only [List.length_map, List.length_append, List.length_cons, List.length_nil, wSt_len]; have := HTL.out; omega) HB.out.gr.size ?_
                      intro v9 c42 ho hg hb
                      have hN := Lib.hid (HB.out.addQ (ds := [pkSt n, (St.mk xk (m : Nat) be co)]) ho hg hb)
                      clear ho hg hb HB
                      have HB := hN
                      clear hN
                      refine hK.out _ _ (HB.out.four (K := Kb) (k := xk) (sz := (m : Nat)) (be := be) (co := co) (by simp)) (fun hHeld => ?_)
                      clear hK K
                      try simp only [Act.put, List.setIfInBounds_toArray, List.set_cons_zero, List.set_cons_succ]
                      refine wpAnyH_ready (rs := [13]) (by kernel_rfl) (by simp) ?_
                      refine AllReadyH.cons (o := { dst := some 101, op := Op.call { callee := Callee.builtin Builtin.append, args := #[Operand.tmp 98, Operand.tmp 100], argTypes := #[43, 43] }, type := 43, pos := "sessions.go:361", after := #[{ on := 10, ground := Ground.data }, { on := 12, ground := Ground.data }, { on := 9, ground := Ground.chain }], guard := none }) rfl (fun K hK => ?_) ?_
                      ·
                        obtain ⟨us, a1, a2, a3⟩ := HB.out.s.ex
                        have hu4 := HEU.out _ (fun z hz => (HB.out.e z (by simp [hz])).1)
                        have HUS := Lib.hid a1
                        refine wp_append_rowB _ _ (by rfl) Tryd.underlying43 u8sInfo rfl (by decide) (by decide) (by rfl) a2 [[.slice pz nz cz]] (sl_one _ _ _) ⟨b12, 0, none⟩ 1 1 (by rfl) rfl (HB.out.cells (cs := [Value.slice pz nz cz]) (T := 24) (by simp) rfl) (by rw [List.length_map, HUS.out]; simp only [List.length_cons, List.length_map]; have := HTL.out; omega) HB.out.gr.size ?_
                        intro v13 c43 ho hg hb
                        have hN := Lib.hid (HB.out.addS us a1 a2 a3 hu4 ho hg hb)
                        clear a2 a3 hu4 a1
                        clear ho hg hb HB
                        have HB := hN
                        clear hN
                        refine hK.out _ _ (HB.out.four (K := Kb) (k := xk) (sz := (m : Nat)) (be := be) (co := co) (by simp)) (fun hHeld => ?_)
                        clear hK K
                        try simp only [Act.put, List.setIfInBounds_toArray, List.set_cons_zero, List.set_cons_succ]
                        refine wpAnyH_take (i := 14) (oi := { dst := some 10, op := Op.assign (Operand.tmp 91), type := 29, pos := "sessions.go:361", after := #[{ on := 3, ground := Ground.data }, { on := 13, ground := Ground.chain }, { on := 0, ground := Ground.phase }, { on := 1, ground := Ground.phase }, { on := 2, ground := Ground.phase }, { on := 3, ground := Ground.phase }, { on := 4, ground := Ground.textOnly Departure.lateStores }, { on := 5, ground := Ground.textOnly Departure.lateStores }, { on := 6, ground := Ground.textOnly Departure.lateStores }, { on := 7, ground := Ground.textOnly Departure.lateStores }, { on := 8, ground := Ground.textOnly Departure.lateStores }, { on := 9, ground := Ground.textOnly Departure.lateStoresUnsure }, { on := 10, ground := Ground.textOnly Departure.lateStores }, { on := 11, ground := Ground.textOnly Departure.lateStores }, { on := 12, ground := Ground.textOnly Departure.lateStores }, { on := 13, ground := Ground.textOnly Departure.lateStoresUnsure }], guard := none }) (v := ?_) rfl (by kernel_rfl) (by kernel_rfl) (by kernel_rfl) (fun _ _ _ h => h) (Or.inl ⟨by rfl, ?_⟩) (by assumption) ?_
                        rotate_left
                        · (intro w hSw; (try dsimp only at hSw); go_simp; try with_reducible rfl)
                        try simp only [Act.put, List.setIfInBounds_toArray, List.set_cons_zero, List.set_cons_succ]
                        refine wpAnyH_take (i := 15) (oi := { dst := some 8, op := Op.assign (Operand.tmp 97), type := 29, pos := "sessions.go:361", after := #[{ on := 9, ground := Ground.data }, { on := 14, ground := Ground.chain }, { on := 0, ground := Ground.phase }, { on := 1, ground := Ground.phase }, { on := 2, ground := Ground.phase }, { on := 3, ground := Ground.phase }, { on := 4, ground := Ground.phase }, { on := 5, ground := Ground.phase }, { on := 6, ground := Ground.phase }, { on := 7, ground := Ground.phase }, { on := 8, ground := Ground.phase }, { on := 9, ground := Ground.phase }, { on := 10, ground := Ground.textOnly Departure.lateStores }, { on := 11, ground := Ground.textOnly Departure.lateStores }, { on := 12, ground := Ground.textOnly Departure.lateStores }, { on := 13, ground := Ground.textOnly Departure.lateStoresUnsure }, { on := 14, ground := Ground.phase }], guard := none }) (v := ?_) rfl (by kernel_rfl) (by kernel_rfl) (by kernel_rfl) (fun _ _ _ h => h) (Or.inl ⟨by rfl, ?_⟩) (by assumption) ?_
                        rotate_left
                        · (intro w hSw; (try dsimp only at hSw); go_simp; try with_reducible rfl)
                        try simp only [Act.put, List.setIfInBounds_toArray, List.set_cons_zero, List.set_cons_succ]
                        refine wpAnyH_take (i := 16) (oi := { dst := some 9, op := Op.assign (Operand.tmp 101), type := 43, pos := "sessions.go:361", after := #[{ on := 13, ground := Ground.data }, { on := 15, ground := Ground.chain }, { on := 0, ground := Ground.phase }, { on := 1, ground := Ground.phase }, { on := 2, ground := Ground.phase }, { on := 3, ground := Ground.phase }, { on := 4, ground := Ground.phase }, { on := 5, ground := Ground.phase }, { on := 6, ground := Ground.phase }, { on := 7, ground := Ground.phase }, { on := 8, ground := Ground.phase }, { on := 9, ground := Ground.phase }, { on := 10, ground := Ground.phase }, { on := 11, ground := Ground.phase }, { on := 12, ground := Ground.phase }, { on := 13, ground := Ground.phase }, { on := 14, ground := Ground.phase }, { on := 15, ground := Ground.phase }], guard := none }) (v := ?_) rfl (by kernel_rfl) (by kernel_rfl) (by kernel_rfl) (fun _ _ _ h => h) (Or.inl ⟨by rfl, ?_⟩) (by assumption) ?_
                        rotate_left
                        · (intro w hSw; (try dsimp only at hSw); go_simp; try with_reducible rfl)
                        try simp only [Act.put, List.setIfInBounds_toArray, List.set_cons_zero, List.set_cons_succ]
                        refine wpAnyH_done (by kernel_rfl) ?_ _
                        go_wp2_with fail
                        go_roundw
                        case rel => exact ⟨j + 1, ts ++ [Tr.mk (St.mk xk (m : Nat) be co) g n sh], q, by go_num, ⟨HB.out.next ts (Tr.mk (St.mk xk (m : Nat) be co) g n sh) (fun z hz => by simp [hz]), by omega, by rw [List.length_append]; simp; omega, HR1'.out, HR2'.out⟩⟩
                        case measure => simp [intOf]; omega
                      exact AllReadyH.nil
                    exact AllReadyH.nil
                  exact AllReadyH.nil
                refine AllReadyH.cons (o := { dst := some 100, op := Op.buildSlice 43 1 #[(0, Operand.tmp 99)], type := 43, pos := "sessions.go:361", after := #[{ on := 11, ground := Ground.data }], guard := none }) rfl (fun K hK => ?_) ?_
                ·
                  have hN : Hid (Bun w (c36.alloc (.cells #[Value.slice pz nz cz] 24)) r u10 u8 u9 (ts.map Tr.x) (pkSt n0 :: wSt ts) (s0 :: ts.map Tr.s) q ((c36.heap.size, [Value.slice pz nz cz], 24) :: (b2, [Value.int .i64 xk, .int .i64 (m : Nat), .bool be, .bool co], 28) :: (b8, [Value.int .i64 9, .int .i64 (n : Nat), .bool false, .bool false, .int .i64 xk, .int .i64 (m : Nat), .bool be, .bool co], 28) :: exU ++ (Kb, [Value.int .i64 xk, .int .i64 (m : Nat), .bool be, .bool co], 28) :: exs)) := Lib.hid (HB.out.new [Value.slice pz nz cz] 24)
                  clear HB
                  have HB := hN
                  clear hN
                  go_simp
                  generalize c36.heap.size = b12 at *
                  generalize hcc : c36.alloc (.cells #[Value.slice pz nz cz] 24) = c44 at *
                  clear hcc
                  refine hK.out _ _ (HB.out.four (K := Kb) (k := xk) (sz := (m : Nat)) (be := be) (co := co) (by simp)) (fun hHeld => ?_)
                  clear hK K
                  try simp only [Act.put, List.setIfInBounds_toArray, List.set_cons_zero, List.set_cons_succ]
                  refine wpAnyH_ready (rs := [3]) (by kernel_rfl) (by simp) ?_
                  refine AllReadyH.cons (o := { dst := some 91, op := Op.call { callee := Callee.builtin Builtin.append, args := #[Operand.tmp 88, Operand.tmp 90], argTypes := #[29, 29] }, type := 29, pos := "sessions.go:361", after := #[{ on := 0, ground := Ground.data }, { on := 2, ground := Ground.data }], guard := none }) rfl (fun K hK => ?_) ?_
                  ·
                    refine wp_append_rowB _ _ (by rfl) Tryd.underlying29 stInfo rfl (by decide) (by decide) (by rfl) HB.out.p ([(St.mk xk (m : Nat) be co)].map St.cs) (st_all _) ⟨b2, 0, none⟩ 1 1 (by rfl) rfl (HB.out.cells (cs := [Value.int .i64 xk, .int .i64 (m : Nat), .bool be, .bool co]) (T := 28) (by simp) rfl) (by simp only [List.length_map, List.length_append, List.length_cons, List.length_nil, wSt_len]; have := HTL.out; omega) HB.out.gr.size ?_
                    intro v3 c45 ho hg hb
                    have hN := Lib.hid (HB.out.addP (ds := [(St.mk xk (m : Nat) be co)]) ho hg hb)
                    clear ho hg hb HB
                    have HB := hN
                    clear hN
                    refine hK.out _ _ (HB.out.four (K := Kb) (k := xk) (sz := (m : Nat)) (be := be) (co := co) (by simp)) (fun hHeld => ?_)
                    clear hK K
                    try simp only [Act.put, List.setIfInBounds_toArray, List.set_cons_zero, List.set_cons_succ]
                    refine wpAnyH_ready (rs := [9]) (by kernel_rfl) (by simp) ?_
                    refine AllReadyH.cons (o := { dst := some 97, op := Op.call { callee := Callee.builtin Builtin.append, args := #[Operand.tmp 92, Operand.tmp 96], argTypes := #[29, 29] }, type := 29, pos := "sessions.go:361", after := #[{ on := 4, ground := Ground.data }, { on := 8, ground := Ground.data }, { on := 3, ground := Ground.chain }], guard := none }) rfl (fun K hK => ?_) ?_
                    ·
                      refine wp_append_rowB _ _ (by rfl) Tryd.underlying29 stInfo rfl (by decide) (by decide) (by rfl) HB.out.q ([pkSt n, (St.mk xk (m : Nat) be co)].map St.cs) (st_all _) ⟨b8, 0, none⟩ 2 2 (by rfl) rfl (HB.out.cells (cs := [Value.int .i64 9, .int .i64 (n : Nat), .bool false, .bool false, .int .i64 xk, .int .i64 (m : Nat), .bool be, .bool co]) (T := 28) (by simp) rfl) (by simp only [List.length_map, List.length_append, List.length_cons, List.length_nil, wSt_len]; have := HTL.out; omega) HB.out.gr.size ?_
                      intro v9 c46 ho hg hb
                      have hN := Lib.hid (HB.out.addQ (ds := [pkSt n, (St.mk xk (m : Nat) be co)]) ho hg hb)
                      clear ho hg hb HB
                      have HB := hN
                      clear hN
                      refine hK.out _ _ (HB.out.four (K := Kb) (k := xk) (sz := (m : Nat)) (be := be) (co := co) (by simp)) (fun hHeld => ?_)
                      clear hK K
                      try simp only [Act.put, List.setIfInBounds_toArray, List.set_cons_zero, List.set_cons_succ]
                      refine wpAnyH_ready (rs := [13]) (by kernel_rfl) (by simp) ?_
                      refine AllReadyH.cons (o := { dst := some 101, op := Op.call { callee := Callee.builtin Builtin.append, args := #[Operand.tmp 98, Operand.tmp 100], argTypes := #[43, 43] }, type := 43, pos := "sessions.go:361", after := #[{ on := 10, ground := Ground.data }, { on := 12, ground := Ground.data }, { on := 9, ground := Ground.chain }], guard := none }) rfl (fun K hK => ?_) ?_
                      ·
                        obtain ⟨us, a1, a2, a3⟩ := HB.out.s.ex
                        have hu4 := HEU.out _ (fun z hz => (HB.out.e z (by simp [hz])).1)
                        have HUS := Lib.hid a1
                        refine wp_append_rowB _ _ (by rfl) Tryd.underlying43 u8sInfo rfl (by decide) (by decide) (by rfl) a2 [[.slice pz nz cz]] (sl_one _ _ _) ⟨b12, 0, none⟩ 1 1 (by rfl) rfl (HB.out.cells (cs := [Value.slice pz nz cz]) (T := 24) (by simp) rfl) (by rw [List.length_map, HUS.out]; simp only [List.length_cons, List.length_map]; have := HTL.out; omega) HB.out.gr.size ?_
                        intro v13 c47 ho hg hb
                        have hN := Lib.hid (HB.out.addS us a1 a2 a3 hu4 ho hg hb)
                        clear a2 a3 hu4 a1
                        clear ho hg hb HB
                        have HB := hN
                        clear hN
                        refine hK.out _ _ (HB.out.four (K := Kb) (k := xk) (sz := (m : Nat)) (be := be) (co := co) (by simp)) (fun hHeld => ?_)
                        clear hK K
                        try simp only [Act.put, List.setIfInBounds_toArray, List.set_cons_zero, List.set_cons_succ]
                        refine wpAnyH_take (i := 14) (oi := { dst := some 10, op := Op.assign (Operand.tmp 91), type := 29, pos := "sessions.go:361", after := #[{ on := 3, ground := Ground.data }, { on := 13, ground := Ground.chain }, { on := 0, ground := Ground.phase }, { on := 1, ground := Ground.phase }, { on := 2, ground := Ground.phase }, { on := 3, ground := Ground.phase }, { on := 4, ground := Ground.textOnly Departure.lateStores }, { on := 5, ground := Ground.textOnly Departure.lateStores }, { on := 6, ground := Ground.textOnly Departure.lateStores }, { on := 7, ground := Ground.textOnly Departure.lateStores }, { on := 8, ground := Ground.textOnly Departure.lateStores }, { on := 9, ground := Ground.textOnly Departure.lateStoresUnsure }, { on := 10, ground := Ground.textOnly Departure.lateStores }, { on := 11, ground := Ground.textOnly Departure.lateStores }, { on := 12, ground := Ground.textOnly Departure.lateStores }, { on := 13, ground := Ground.textOnly Departure.lateStoresUnsure }], guard := none }) (v := ?_) rfl (by kernel_rfl) (by kernel_rfl) (by kernel_rfl) (fun _ _ _ h => h) (Or.inl ⟨by rfl, ?_⟩) (by assumption) ?_
                        rotate_left
                        · (intro w hSw; (try dsimp only at hSw); go_simp; try with_reducible rfl)
                        try simp only [Act.put, List.setIfInBounds_toArray, List.set_cons_zero, List.set_cons_succ]
                        refine wpAnyH_take (i := 15) (oi := { dst := some 8, op := Op.assign (Operand.tmp 97), type := 29, pos := "sessions.go:361", after := #[{ on := 9, ground := Ground.data }, { on := 14, ground := Ground.chain }, { on := 0, ground := Ground.phase }, { on := 1, ground := Ground.phase }, { on := 2, ground := Ground.phase }, { on := 3, ground := Ground.phase }, { on := 4, ground := Ground.phase }, { on := 5, ground := Ground.phase }, { on := 6, ground := Ground.phase }, { on := 7, ground := Ground.phase }, { on := 8, ground := Ground.phase }, { on := 9, ground := Ground.phase }, { on := 10, ground := Ground.textOnly Departure.lateStores }, { on := 11, ground := Ground.textOnly Departure.lateStores }, { on := 12, ground := Ground.textOnly Departure.lateStores }, { on := 13, ground := Ground.textOnly Departure.lateStoresUnsure }, { on := 14, ground := Ground.phase }], guard := none }) (v := ?_) rfl (by kernel_rfl) (by kernel_rfl) (by kernel_rfl) (fun _ _ _ h => h) (Or.inl ⟨by rfl, ?_⟩) (by assumption) ?_
                        rotate_left
                        · (intro w hSw; (try dsimp only at hSw); go_simp; try with_reducible rfl)
                        try simp only [Act.put, List.setIfInBounds_toArray, List.set_cons_zero, List.set_cons_succ]
                        refine wpAnyH_take (i := 16) (oi := { dst := some 9, op := Op.assign (Operand.tmp 101), type := 43, pos := "sessions.go:361", after := #[{ on := 13, ground := Ground.data }, { on := 15, ground := Ground.chain }, { on := 0, ground := Ground.phase }, { on := 1, ground := Ground.phase }, { on := 2, ground := Ground.phase }, { on := 3, ground := Ground.phase }, { on := 4, ground := Ground.phase }, { on := 5, ground := Ground.phase }, { on := 6, ground := Ground.phase }, { on := 7, ground := Ground.phase }, { on := 8, ground := Ground.phase }, { on := 9, ground := Ground.phase }, { on := 10, ground := Ground.phase }, { on := 11, ground := Ground.phase }, { on := 12, ground := Ground.phase }, { on := 13, ground := Ground.phase }, { on := 14, ground := Ground.phase }, { on := 15, ground := Ground.phase }], guard := none }) (v := ?_) rfl (by kernel_rfl) (by kernel_rfl) (by kernel_rfl) (fun _ _ _ h => h) (Or.inl ⟨by rfl, ?_⟩) (by assumption) ?_
                        rotate_left
                        · (intro w hSw; (try dsimp only at hSw); go_simp; try with_reducible rfl)
                        try simp only [Act.put, List.setIfInBounds_toArray, List.set_cons_zero, List.set_cons_succ]
                        refine wpAnyH_done (by kernel_rfl) ?_ _
                        go_wp2_with fail
                        go_roundw
                        case rel => exact ⟨j + 1, ts ++ [Tr.mk (St.mk xk (m : Nat) be co) g n sh], q, by go_num, ⟨HB.out.next ts (Tr.mk (St.mk xk (m : Nat) be co) g n sh) (fun z hz => by simp [hz]), by omega, by rw [List.length_append]; simp; omega, HR1'.out, HR2'.out⟩⟩
                        case measure => simp [intOf]; omega
                      exact AllReadyH.nil
                    exact AllReadyH.nil
                  exact AllReadyH.nil
                exact AllReadyH.nil
              refine AllReadyH.cons (o := { dst := some 100, op := Op.buildSlice 43 1 #[(0, Operand.tmp 99)], type := 43, pos := "sessions.go:361", after := #[{ on := 11, ground := Ground.data }], guard := none }) rfl (fun K hK => ?_) ?_
              ·
                have hN : Hid (Bun w (c35.alloc (.cells #[Value.slice pz nz cz] 24)) r u10 u8 u9 (ts.map Tr.x) (pkSt n0 :: wSt ts) (s0 :: ts.map Tr.s) q ((c35.heap.size, [Value.slice pz nz cz], 24) :: (b8, [Value.int .i64 9, .int .i64 (n : Nat), .bool false, .bool false, .int .i64 xk, .int .i64 (m : Nat), .bool be, .bool co], 28) :: exU ++ (Kb, [Value.int .i64 xk, .int .i64 (m : Nat), .bool be, .bool co], 28) :: exs)) := Lib.hid (HB.out.new [Value.slice pz nz cz] 24)
                clear HB
                have HB := hN
                clear hN
                go_simp
                generalize c35.heap.size = b12 at *
                generalize hcc : c35.alloc (.cells #[Value.slice pz nz cz] 24) = c48 at *
                clear hcc
                refine hK.out _ _ (HB.out.four (K := Kb) (k := xk) (sz := (m : Nat)) (be := be) (co := co) (by simp)) (fun hHeld => ?_)
                clear hK K
                try simp only [Act.put, List.setIfInBounds_toArray, List.set_cons_zero, List.set_cons_succ]
                refine wpAnyH_ready (rs := [2]) (by kernel_rfl) (by simp) ?_
                refine AllReadyH.cons (o := { dst := some 90, op := Op.buildSlice 29 1 #[(0, Operand.tmp 89)], type := 29, pos := "sessions.go:361", after := #[{ on := 1, ground := Ground.data }], guard := none }) rfl (fun K hK => ?_) ?_
                ·
                  have hN : Hid (Bun w (c48.alloc (.cells #[Value.int .i64 xk, .int .i64 (m : Nat), .bool be, .bool co] 28)) r u10 u8 u9 (ts.map Tr.x) (pkSt n0 :: wSt ts) (s0 :: ts.map Tr.s) q ((c48.heap.size, [Value.int .i64 xk, .int .i64 (m : Nat), .bool be, .bool co], 28) :: (b12, [Value.slice pz nz cz], 24) :: (b8, [Value.int .i64 9, .int .i64 (n : Nat), .bool false, .bool false, .int .i64 xk, .int .i64 (m : Nat), .bool be, .bool co], 28) :: exU ++ (Kb, [Value.int .i64 xk, .int .i64 (m : Nat), .bool be, .bool co], 28) :: exs)) := Lib.hid (HB.out.new [Value.int .i64 xk, .int .i64 (m : Nat), .bool be, .bool co] 28)
                  clear HB
                  have HB := hN
                  clear hN
                  go_simp
                  generalize c48.heap.size = b2 at *
                  generalize hcc : c48.alloc (.cells #[Value.int .i64 xk, .int .i64 (m : Nat), .bool be, .bool co] 28) = c49 at *
                  clear hcc
                  refine hK.out _ _ (HB.out.four (K := Kb) (k := xk) (sz := (m : Nat)) (be := be) (co := co) (by simp)) (fun hHeld => ?_)
                  clear hK K
                  try simp only [Act.put, List.setIfInBounds_toArray, List.set_cons_zero, List.set_cons_succ]
                  refine wpAnyH_ready (rs := [3]) (by kernel_rfl) (by simp) ?_
                  refine AllReadyH.cons (o := { dst := some 91, op := Op.call { callee := Callee.builtin Builtin.append, args := #[Operand.tmp 88, Operand.tmp 90], argTypes := #[29, 29] }, type := 29, pos := "sessions.go:361", after := #[{ on := 0, ground := Ground.data }, { on := 2, ground := Ground.data }], guard := none }) rfl (fun K hK => ?_) ?_
                  ·
                    refine wp_append_rowB _ _ (by rfl) Tryd.underlying29 stInfo rfl (by decide) (by decide) (by rfl) HB.out.p ([(St.mk xk (m : Nat) be co)].map St.cs) (st_all _) ⟨b2, 0, none⟩ 1 1 (by rfl) rfl (HB.out.cells (cs := [Value.int .i64 xk, .int .i64 (m : Nat), .bool be, .bool co]) (T := 28) (by simp) rfl) (by simp only [List.length_map, List.length_append, List.length_cons, List.length_nil, wSt_len]; have := HTL.out; omega) HB.out.gr.size ?_
                    intro v3 c50 ho hg hb
                    have hN := Lib.hid (HB.out.addP (ds := [(St.mk xk (m : Nat) be co)]) ho hg hb)
                    clear ho hg hb HB
                    have HB := hN
                    clear hN
                    refine hK.out _ _ (HB.out.four (K := Kb) (k := xk) (sz := (m : Nat)) (be := be) (co := co) (by simp)) (fun hHeld => ?_)
                    clear hK K
                    try simp only [Act.put, List.setIfInBounds_toArray, List.set_cons_zero, List.set_cons_succ]
                    refine wpAnyH_ready (rs := [9]) (by kernel_rfl) (by simp) ?_
                    refine AllReadyH.cons (o := { dst := some 97, op := Op.call { callee := Callee.builtin Builtin.append, args := #[Operand.tmp 92, Operand.tmp 96], argTypes := #[29, 29] }, type := 29, pos := "sessions.go:361", after := #[{ on := 4, ground := Ground.data }, { on := 8, ground := Ground.data }, { on := 3, ground := Ground.chain }], guard := none }) rfl (fun K hK => ?_) ?_
                    ·
                      refine wp_append_rowB _ _ (by rfl) Tryd.underlying29 stInfo rfl (by decide) (by decide) (by rfl) HB.out.q ([pkSt n, (St.mk xk (m : Nat) be co)].map St.cs) (st_all _) ⟨b8, 0, none⟩ 2 2 (by rfl) rfl (HB.out.cells (cs := [Value.int .i64 9, .int .i64 (n : Nat), .bool false, .bool false, .int .i64 xk, .int .i64 (m : Nat), .bool be, .bool co]) (T := 28) (by simp) rfl) (by simp only [List.length_map, List.length_append, List.length_cons, List.length_nil, wSt_len]; have := HTL.out; omega) HB.out.gr.size ?_
                      intro v9 c51 ho hg hb
                      have hN := Lib.hid (HB.out.addQ (ds := [pkSt n, (St.mk xk (m : Nat) be co)]) ho hg hb)
                      clear ho hg hb HB
                      have HB := hN
                      clear hN
                      refine hK.out _ _ (HB.out.four (K := Kb) (k := xk) (sz := (m : Nat)) (be := be) (co := co) (by simp)) (fun hHeld => ?_)
                      clear hK K
                      try simp only [Act.put, List.setIfInBounds_toArray, List.set_cons_zero, List.set_cons_succ]
                      refine wpAnyH_ready (rs := [13]) (by kernel_rfl) (by simp) ?_
                      refine AllReadyH.cons (o := { dst := some 101, op := Op.call { callee := Callee.builtin Builtin.append, args := #[Operand.tmp 98, Operand.tmp 100], argTypes := #[43, 43] }, type := 43, pos := "sessions.go:361", after := #[{ on := 10, ground := Ground.data }, { on := 12, ground := Ground.data }, { on := 9, ground := Ground.chain }], guard := none }) rfl (fun K hK => ?_) ?_
                      ·
                        obtain ⟨us, a1, a2, a3⟩ := HB.out.s.ex
                        have hu4 := HEU.out _ (fun z hz => (HB.out.e z (by simp [hz])).1)
                        have HUS := Lib.hid a1
                        refine wp_append_rowB _ _ (by rfl) Tryd.underlying43 u8sInfo rfl (by decide) (by decide) (by rfl) a2 [[.slice pz nz cz]] (sl_one _ _ _) ⟨b12, 0, none⟩ 1 1 (by rfl) rfl (HB.out.cells (cs := [Value.slice pz nz cz]) (T := 24) (by simp) rfl) (by rw [List.length_map, HUS.out]; simp only [List.length_cons, List.length_map]; have := HTL.out; omega) HB.out.gr.size ?_
                        intro v13 c52 ho hg hb
                        have hN := Lib.hid (HB.out.addS us a1 a2 a3 hu4 ho hg hb)
                        clear a2 a3 hu4 a1
                        clear ho hg hb HB
                        have HB := hN
                        clear hN
                        refine hK.out _ _ (HB.out.four (K := Kb) (k := xk) (sz := (m : Nat)) (be := be) (co := co) (by simp)) (fun hHeld => ?_)
                        clear hK K
                        try simp only [Act.put, List.setIfInBounds_toArray, List.set_cons_zero, List.set_cons_succ]
                        refine wpAnyH_take (i := 14) (oi := { dst := some 10, op := Op.assign (Operand.tmp 91), type := 29, pos := "sessions.go:361", after := #[{ on := 3, ground := Ground.data }, { on := 13, ground := Ground.chain }, { on := 0, ground := Ground.phase }, { on := 1, ground := Ground.phase }, { on := 2, ground := Ground.phase }, { on := 3, ground := Ground.phase }, { on := 4, ground := Ground.textOnly Departure.lateStores }, { on := 5, ground := Ground.textOnly Departure.lateStores }, { on := 6, ground := Ground.textOnly Departure.lateStores }, { on := 7, ground := Ground.textOnly Departure.lateStores }, { on := 8, ground := Ground.textOnly Departure.lateStores }, { on := 9, ground := Ground.textOnly Departure.lateStoresUnsure }, { on := 10, ground := Ground.textOnly Departure.lateStores }, { on := 11, ground := Ground.textOnly Departure.lateStores }, { on := 12, ground := Ground.textOnly Departure.lateStores }, { on := 13, ground := Ground.textOnly Departure.lateStoresUnsure }], guard := none }) (v := ?_) rfl (by kernel_rfl) (by kernel_rfl) (by kernel_rfl) (fun _ _ _ h => h) (Or.inl ⟨by rfl, ?_⟩) (by assumption) ?_
                        rotate_left
                        · (intro w hSw; (try dsimp only at hSw); go_simp; try with_reducible rfl)
                        try simp only [Act.put, List.setIfInBounds_toArray, List.set_cons_zero, List.set_cons_succ]
                        refine wpAnyH_take (i := 15) (oi := { dst := some 8, op := Op.assign (Operand.tmp 97), type := 29, pos := "sessions.go:361", after := #[{ on := 9, ground := Ground.data }, { on := 14, ground := Ground.chain }, { on := 0, ground := Ground.phase }, { on := 1, ground := Ground.phase }, { on := 2, ground := Ground.phase }, { on := 3, ground := Ground.phase }, { on := 4, ground := Ground.phase }, { on := 5, ground := Ground.phase }, { on := 6, ground := Ground.phase }, { on := 7, ground := Ground.phase }, { on := 8, ground := Ground.phase }, { on := 9, ground := Ground.phase }, { on := 10, ground := Ground.textOnly Departure.lateStores }, { on := 11, ground := Ground.textOnly Departure.lateStores }, { on := 12, ground := Ground.textOnly Departure.lateStores }, { on := 13, ground := Ground.textOnly Departure.lateStoresUnsure }, { on := 14, ground := Ground.phase }], guard := none }) (v := ?_) rfl (by kernel_rfl) (by kernel_rfl) (by kernel_rfl) (fun _ _ _ h => h) (Or.inl ⟨by rfl, ?_⟩) (by assumption) ?_
                        rotate_left
                        · (intro w hSw; (try dsimp only at hSw); go_simp; try with_reducible rfl)
                        try simp only [Act.put, List.setIfInBounds_toArray, List.set_cons_zero, List.set_cons_succ]
                        refine wpAnyH_take (i := 16) (oi := { dst := some 9, op := Op.assign (Operand.tmp 101), type := 43, pos := "sessions.go:361", after := #[{ on := 13, ground := Ground.data }, { on := 15, ground := Ground.chain }, { on := 0, ground := Ground.phase }, { on := 1, ground := Ground.phase }, { on := 2, ground := Ground.phase }, { on := 3, ground := Ground.phase }, { on := 4, ground := Ground.phase }, { on := 5, ground := Ground.phase }, { on := 6, ground := Ground.phase }, { on := 7, ground := Ground.phase }, { on := 8, ground := Ground.phase }, { on := 9, ground := Ground.phase }, { on := 10, ground := Ground.phase }, { on := 11, ground := Ground.phase }, { on := 12, ground := Ground.phase }, { on := 13, ground := Ground.phase }, { on := 14, ground := Ground.phase }, { on := 15, ground := Ground.phase }], guard := none }) (v := ?_) rfl (by kernel_rfl) (by kernel_rfl) (by kernel_rfl) (fun _ _ _ h => h) (Or.inl ⟨by rfl, ?_⟩) (by assumption) ?_
                        rotate_left
                        · (intro w hSw; (try dsimp only at hSw); go_simp; try with_reducible rfl)
                        try simp only [Act.put, List.setIfInBounds_toArray, List.set_cons_zero, List.set_cons_succ]
                        refine wpAnyH_done (by kernel_rfl) ?_ _
                        go_wp2_with fail
                        go_roundw
                        case rel => exact ⟨j + 1, ts ++ [Tr.mk (St.mk xk (m : Nat) be co) g n sh], q, by go_num, ⟨HB.out.next ts (Tr.mk (St.mk xk (m : Nat) be co) g n sh) (fun z hz => by simp [hz]), by omega, by rw [List.length_append]; simp; omega, HR1'.out, HR2'.out⟩⟩
                        case measure => simp [intOf]; omega
                      exact AllReadyH.nil
                    exact AllReadyH.nil
                  exact AllReadyH.nil
                exact AllReadyH.nil
              exact AllReadyH.nil
            refine AllReadyH.cons (o := { dst := some 100, op := Op.buildSlice 43 1 #[(0, Operand.tmp 99)], type := 43, pos := "sessions.go:361", after := #[{ on := 11, ground := Ground.data }], guard := none }) rfl (fun K hK => ?_) ?_
            ·
              have hN : Hid (Bun w (c0.alloc (.cells #[Value.slice pz nz cz] 24)) r u10 u8 u9 (ts.map Tr.x) (pkSt n0 :: wSt ts) (s0 :: ts.map Tr.s) q ((c0.heap.size, [Value.slice pz nz cz], 24) :: exU ++ (Kb, [Value.int .i64 xk, .int .i64 (m : Nat), .bool be, .bool co], 28) :: exs)) := Lib.hid (HB.out.new [Value.slice pz nz cz] 24)
              clear HB
              have HB := hN
              clear hN
              go_simp
              generalize c0.heap.size = b12 at *
              generalize hcc : c0.alloc (.cells #[Value.slice pz nz cz] 24) = c53 at *
              clear hcc
              refine hK.out _ _ (HB.out.four (K := Kb) (k := xk) (sz := (m : Nat)) (be := be) (co := co) (by simp)) (fun hHeld => ?_)
              clear hK K
              try simp only [Act.put, List.setIfInBounds_toArray, List.set_cons_zero, List.set_cons_succ]
              refine wpAnyH_ready (rs := [2, 8]) (by kernel_rfl) (by simp) ?_
              refine AllReadyH.cons (o := { dst := some 90, op := Op.buildSlice 29 1 #[(0, Operand.tmp 89)], type := 29, pos := "sessions.go:361", after := #[{ on := 1, ground := Ground.data }], guard := none }) rfl (fun K hK => ?_) ?_
              ·
                have hN : Hid (Bun w (c53.alloc (.cells #[Value.int .i64 xk, .int .i64 (m : Nat), .bool be, .bool co] 28)) r u10 u8 u9 (ts.map Tr.x) (pkSt n0 :: wSt ts) (s0 :: ts.map Tr.s) q ((c53.heap.size, [Value.int .i64 xk, .int .i64 (m : Nat), .bool be, .bool co], 28) :: (b12, [Value.slice pz nz cz], 24) :: exU ++ (Kb, [Value.int .i64 xk, .int .i64 (m : Nat), .bool be, .bool co], 28) :: exs)) := Lib.hid (HB.out.new [Value.int .i64 xk, .int .i64 (m : Nat), .bool be, .bool co] 28)
                clear HB
                have HB := hN
                clear hN
                go_simp
                generalize c53.heap.size = b2 at *
                generalize hcc : c53.alloc (.cells #[Value.int .i64 xk, .int .i64 (m : Nat), .bool be, .bool co] 28) = c54 at *
                clear hcc
                refine hK.out _ _ (HB.out.four (K := Kb) (k := xk) (sz := (m : Nat)) (be := be) (co := co) (by simp)) (fun hHeld => ?_)
                clear hK K
                try simp only [Act.put, List.setIfInBounds_toArray, List.set_cons_zero, List.set_cons_succ]
                refine wpAnyH_ready (rs := [3, 8]) (by kernel_rfl) (by simp) ?_
                refine AllReadyH.cons (o := { dst := some 91, op := Op.call { callee := Callee.builtin Builtin.append, args := #[Operand.tmp 88, Operand.tmp 90], argTypes := #[29, 29] }, type := 29, pos := "sessions.go:361", after := #[{ on := 0, ground := Ground.data }, { on := 2, ground := Ground.data }], guard := none }) rfl (fun K hK => ?_) ?_
                ·
                  refine wp_append_rowB _ _ (by rfl) Tryd.underlying29 stInfo rfl (by decide) (by decide) (by rfl) HB.out.p ([(St.mk xk (m : Nat) be co)].map St.cs) (st_all _) ⟨b2, 0, none⟩ 1 1 (by rfl) rfl (HB.out.cells (cs := [Value.int .i64 xk, .int .i64 (m : Nat), .bool be, .bool co]) (T := 28) (by simp) rfl) (by simp only [List.length_map, List.length_append, List.length_cons, List.length_nil, wSt_len]; have := HTL.out; omega) HB.out.gr.size ?_
                  intro v3 c55 ho hg hb
                  have hN := Lib.hid (HB.out.addP (ds := [(St.mk xk (m : Nat) be co)]) ho hg hb)
                  clear ho hg hb HB
                  have HB := hN
                  clear hN
                  refine hK.out _ _ (HB.out.four (K := Kb) (k := xk) (sz := (m : Nat)) (be := be) (co := co) (by simp)) (fun hHeld => ?_)
                  clear hK K
                  try simp only [Act.put, List.setIfInBounds_toArray, List.set_cons_zero, List.set_cons_succ]
                  refine wpAnyH_ready (rs := [8]) (by kernel_rfl) (by simp) ?_
                  refine AllReadyH.cons (o := { dst := some 96, op := Op.buildSlice 29 2 #[(0, Operand.tmp 94), (1, Operand.tmp 95)], type := 29, pos := "sessions.go:361", after := #[{ on := 6, ground := Ground.data }, { on := 7, ground := Ground.data }], guard := none }) rfl (fun K hK => ?_) ?_
                  ·
                    have hN : Hid (Bun w (c55.alloc (.cells #[Value.int .i64 9, .int .i64 (n : Nat), .bool false, .bool false, .int .i64 xk, .int .i64 (m : Nat), .bool be, .bool co] 28)) r v3 u8 u9 (ts.map Tr.x ++ [(St.mk xk (m : Nat) be co)]) (pkSt n0 :: wSt ts) (s0 :: ts.map Tr.s) q ((c55.heap.size, [Value.int .i64 9, .int .i64 (n : Nat), .bool false, .bool false, .int .i64 xk, .int .i64 (m : Nat), .bool be, .bool co], 28) :: (b2, [Value.int .i64 xk, .int .i64 (m : Nat), .bool be, .bool co], 28) :: (b12, [Value.slice pz nz cz], 24) :: exU ++ (Kb, [Value.int .i64 xk, .int .i64 (m : Nat), .bool be, .bool co], 28) :: exs)) := Lib.hid (HB.out.new [Value.int .i64 9, .int .i64 (n : Nat), .bool false, .bool false, .int .i64 xk, .int .i64 (m : Nat), .bool be, .bool co] 28)
                    clear HB
                    have HB := hN
                    clear hN
                    go_simp
                    generalize c55.heap.size = b8 at *
                    generalize hcc : c55.alloc (.cells #[Value.int .i64 9, .int .i64 (n : Nat), .bool false, .bool false, .int .i64 xk, .int .i64 (m : Nat), .bool be, .bool co] 28) = c56 at *
                    clear hcc
                    refine hK.out _ _ (HB.out.four (K := Kb) (k := xk) (sz := (m : Nat)) (be := be) (co := co) (by simp)) (fun hHeld => ?_)
                    clear hK K
                    try simp only [Act.put, List.setIfInBounds_toArray, List.set_cons_zero, List.set_cons_succ]
                    refine wpAnyH_ready (rs := [9]) (by kernel_rfl) (by simp) ?_
                    refine AllReadyH.cons (o := { dst := some 97, op := Op.call { callee := Callee.builtin Builtin.append, args := #[Operand.tmp 92, Operand.tmp 96], argTypes := #[29, 29] }, type := 29, pos := "sessions.go:361", after := #[{ on := 4, ground := Ground.data }, { on := 8, ground := Ground.data }, { on := 3, ground := Ground.chain }], guard := none }) rfl (fun K hK => ?_) ?_
                    ·
                      refine wp_append_rowB _ _ (by rfl) Tryd.underlying29 stInfo rfl (by decide) (by decide) (by rfl) HB.out.q ([pkSt n, (St.mk xk (m : Nat) be co)].map St.cs) (st_all _) ⟨b8, 0, none⟩ 2 2 (by rfl) rfl (HB.out.cells (cs := [Value.int .i64 9, .int .i64 (n : Nat), .bool false, .bool false, .int .i64 xk, .int .i64 (m : Nat), .bool be, .bool co]) (T := 28) (by simp) rfl) (by simp only [List.length_map, List.length_append, List.length_cons, List.length_nil, wSt_len]; have := HTL.out; omega) HB.out.gr.size ?_
                      intro v9 c57 ho hg hb
                      have hN := Lib.hid (HB.out.addQ (ds := [pkSt n, (St.mk xk (m : Nat) be co)]) ho hg hb)
                      clear ho hg hb HB
                      have HB := hN
                      clear hN
                      refine hK.out _ _ (HB.out.four (K := Kb) (k := xk) (sz := (m : Nat)) (be := be) (co := co) (by simp)) (fun hHeld => ?_)
                      clear hK K
                      try simp only [Act.put, List.setIfInBounds_toArray, List.set_cons_zero, List.set_cons_succ]
                      refine wpAnyH_ready (rs := [13]) (by kernel_rfl) (by simp) ?_
                      refine AllReadyH.cons (o := { dst := some 101, op := Op.call { callee := Callee.builtin Builtin.append, args := #[Operand.tmp 98, Operand.tmp 100], argTypes := #[43, 43] }, type := 43, pos := "sessions.go:361", after := #[{ on := 10, ground := Ground.data }, { on := 12, ground := Ground.data }, { on := 9, ground := Ground.chain }], guard := none }) rfl (fun K hK => ?_) ?_
                      ·
                        obtain ⟨us, a1, a2, a3⟩ := HB.out.s.ex
                        have hu4 := HEU.out _ (fun z hz => (HB.out.e z (by simp [hz])).1)
                        have HUS := Lib.hid a1
                        refine wp_append_rowB _ _ (by rfl) Tryd.underlying43 u8sInfo rfl (by decide) (by decide) (by rfl) a2 [[.slice pz nz cz]] (sl_one _ _ _) ⟨b12, 0, none⟩ 1 1 (by rfl) rfl (HB.out.cells (cs := [Value.slice pz nz cz]) (T := 24) (by simp) rfl) (by rw [List.length_map, HUS.out]; simp only [List.length_cons, List.length_map]; have := HTL.out; omega) HB.out.gr.size ?_
                        intro v13 c58 ho hg hb
                        have hN := Lib.hid (HB.out.addS us a1 a2 a3 hu4 ho hg hb)
                        clear a2 a3 hu4 a1
                        clear ho hg hb HB
                        have HB := hN
                        clear hN
                        refine hK.out _ _ (HB.out.four (K := Kb) (k := xk) (sz := (m : Nat)) (be := be) (co := co) (by simp)) (fun hHeld => ?_)
                        clear hK K
                        try simp only [Act.put, List.setIfInBounds_toArray, List.set_cons_zero, List.set_cons_succ]
                        refine wpAnyH_take (i := 14) (oi := { dst := some 10, op := Op.assign (Operand.tmp 91), type := 29, pos := "sessions.go:361", after := #[{ on := 3, ground := Ground.data }, { on := 13, ground := Ground.chain }, { on := 0, ground := Ground.phase }, { on := 1, ground := Ground.phase }, { on := 2, ground := Ground.phase }, { on := 3, ground := Ground.phase }, { on := 4, ground := Ground.textOnly Departure.lateStores }, { on := 5, ground := Ground.textOnly Departure.lateStores }, { on := 6, ground := Ground.textOnly Departure.lateStores }, { on := 7, ground := Ground.textOnly Departure.lateStores }, { on := 8, ground := Ground.textOnly Departure.lateStores }, { on := 9, ground := Ground.textOnly Departure.lateStoresUnsure }, { on := 10, ground := Ground.textOnly Departure.lateStores }, { on := 11, ground := Ground.textOnly Departure.lateStores }, { on := 12, ground := Ground.textOnly Departure.lateStores }, { on := 13, ground := Ground.textOnly Departure.lateStoresUnsure }], guard := none }) (v := ?_) rfl (by kernel_rfl) (by kernel_rfl) (by kernel_rfl) (fun _ _ _ h => h) (Or.inl ⟨by rfl, ?_⟩) (by assumption) ?_
                        rotate_left
                        · (intro w hSw; (try dsimp only at hSw); go_simp; try with_reducible rfl)
                        try simp only [Act.put, List.setIfInBounds_toArray, List.set_cons_zero, List.set_cons_succ]
                        refine wpAnyH_take (i := 15) (oi := { dst := some 8, op := Op.assign (Operand.tmp 97), type := 29, pos := "sessions.go:361", after := #[{ on := 9, ground := Ground.data }, { on := 14, ground := Ground.chain }, { on := 0, ground := Ground.phase }, { on := 1, ground := Ground.phase }, { on := 2, ground := Ground.phase }, { on := 3, ground := Ground.phase }, { on := 4, ground := Ground.phase }, { on := 5, ground := Ground.phase }, { on := 6, ground := Ground.phase }, { on := 7, ground := Ground.phase }, { on := 8, ground := Ground.phase }, { on := 9, ground := Ground.phase }, { on := 10, ground := Ground.textOnly Departure.lateStores }, { on := 11, ground := Ground.textOnly Departure.lateStores }, { on := 12, ground := Ground.textOnly Departure.lateStores }, { on := 13, ground := Ground.textOnly Departure.lateStoresUnsure }, { on := 14, ground := Ground.phase }], guard := none }) (v := ?_) rfl (by kernel_rfl) (by kernel_rfl) (by kernel_rfl) (fun _ _ _ h => h) (Or.inl ⟨by rfl, ?_⟩) (by assumption) ?_
                        rotate_left
                        · (intro w hSw; (try dsimp only at hSw); go_simp; try with_reducible rfl)
                        try simp only [Act.put, List.setIfInBounds_toArray, List.set_cons_zero, List.set_cons_succ]
                        refine wpAnyH_take (i := 16) (oi := { dst := some 9, op := Op.assign (Operand.tmp 101), type := 43, pos := "sessions.go:361", after := #[{ on := 13, ground := Ground.data }, { on := 15, ground := Ground.chain }, { on := 0, ground := Ground.phase }, { on := 1, ground := Ground.phase }, { on := 2, ground := Ground.phase }, { on := 3, ground := Ground.phase }, { on := 4, ground := Ground.phase }, { on := 5, ground := Ground.phase }, { on := 6, ground := Ground.phase }, { on := 7, ground := Ground.phase }, { on := 8, ground := Ground.phase }, { on := 9, ground := Ground.phase }, { on := 10, ground := Ground.phase }, { on := 11, ground := Ground.phase }, { on := 12, ground := Ground.phase }, { on := 13, ground := Ground.phase }, { on := 14, ground := Ground.phase }, { on := 15, ground := Ground.phase }], guard := none }) (v := ?_) rfl (by kernel_rfl) (by kernel_rfl) (by kernel_rfl) (fun _ _ _ h => h) (Or.inl ⟨by rfl, ?_⟩) (by assumption) ?_
                        rotate_left
                        · (intro w hSw; (try dsimp only at hSw); go_simp; try with_reducible rfl)
                        try simp only [Act.put, List.setIfInBounds_toArray, List.set_cons_zero, List.set_cons_succ]
                        refine wpAnyH_done (by kernel_rfl) ?_ _
                        go_wp2_with fail
                        go_roundw
                        case rel => exact ⟨j + 1, ts ++ [Tr.mk (St.mk xk (m : Nat) be co) g n sh], q, by go_num, ⟨HB.out.next ts (Tr.mk (St.mk xk (m : Nat) be co) g n sh) (fun z hz => by simp [hz]), by omega, by rw [List.length_append]; simp; omega, HR1'.out, HR2'.out⟩⟩
                        case measure => simp [intOf]; omega
                      exact AllReadyH.nil
                    exact AllReadyH.nil
                  exact AllReadyH.nil
                refine AllReadyH.cons (o := { dst := some 96, op := Op.buildSlice 29 2 #[(0, Operand.tmp 94), (1, Operand.tmp 95)], type := 29, pos := "sessions.go:361", after := #[{ on := 6, ground := Ground.data }, { on := 7, ground := Ground.data }], guard := none }) rfl (fun K hK => ?_) ?_
                ·
                  have hN : Hid (Bun w (c54.alloc (.cells #[Value.int .i64 9, .int .i64 (n : Nat), .bool false, .bool false, .int .i64 xk, .int .i64 (m : Nat), .bool be, .bool co] 28)) r u10 u8 u9 (ts.map Tr.x) (pkSt n0 :: wSt ts) (s0 :: ts.map Tr.s) q ((c54.heap.size, [Value.int .i64 9, .int .i64 (n : Nat), .bool false, .bool false, .int .i64 xk, .int .i64 (m : Nat), .bool be, .bool co], 28) :: (b2, [Value.int .i64 xk, .int .i64 (m : Nat), .bool be, .bool co], 28) :: (b12, [Value.slice pz nz cz], 24) :: exU ++ (Kb, [Value.int .i64 xk, .int .i64 (m : Nat), .bool be, .bool co], 28) :: exs)) := Lib.hid (HB.out.new [Value.int .i64 9, .int .i64 (n : Nat), .bool false, .bool false, .int .i64 xk, .int .i64 (m : Nat), .bool be, .bool co] 28)
                  clear HB
                  have HB := hN
                  clear hN
                  go_simp
                  generalize c54.heap.size = b8 at *
                  generalize hcc : c54.alloc (.cells #[Value.int .i64 9, .int .i64 (n : Nat), .bool false, .bool false, .int .i64 xk, .int .i64 (m : Nat), .bool be, .bool co] 28) = c59 at *
                  clear hcc
                  refine hK.out _ _ (HB.out.four (K := Kb) (k := xk) (sz := (m : Nat)) (be := be) (co := co) (by simp)) (fun hHeld => ?_)
                  clear hK K
                  try simp only [Act.put, List.setIfInBounds_toArray, List.set_cons_zero, List.set_cons_succ]
                  refine wpAnyH_ready (rs := [3]) (by kernel_rfl) (by simp) ?_
                  refine AllReadyH.cons (o := { dst := some 91, op := Op.call { callee := Callee.builtin Builtin.append, args := #[Operand.tmp 88, Operand.tmp 90], argTypes := #[29, 29] }, type := 29, pos := "sessions.go:361", after := #[{ on := 0, ground := Ground.data }, { on := 2, ground := Ground.data }], guard := none }) rfl (fun K hK => ?_) ?_
                  ·
                    refine wp_append_rowB _ _ (by rfl) Tryd.underlying29 stInfo rfl (by decide) (by decide) (by rfl) HB.out.p ([(St.mk xk (m : Nat) be co)].map St.cs) (st_all _) ⟨b2, 0, none⟩ 1 1 (by rfl) rfl (HB.out.cells (cs := [Value.int .i64 xk, .int .i64 (m : Nat), .bool be, .bool co]) (T := 28) (by simp) rfl) (by simp only [List.length_map, List.length_append, List.length_cons, List.length_nil, wSt_len]; have := HTL.out; omega) HB.out.gr.size ?_
                    intro v3 c60 ho hg hb
                    have hN := Lib.hid (HB.out.addP (ds := [(St.mk xk (m : Nat) be co)]) ho hg hb)
                    clear ho hg hb HB
                    have HB := hN
                    clear hN
                    refine hK.out _ _ (HB.out.four (K := Kb) (k := xk) (sz := (m : Nat)) (be := be) (co := co) (by simp)) (fun hHeld => ?_)
                    clear hK K
                    try simp only [Act.put, List.setIfInBounds_toArray, List.set_cons_zero, List.set_cons_succ]
                    refine wpAnyH_ready (rs := [9]) (by kernel_rfl) (by simp) ?_
                    refine AllReadyH.cons (o := { dst := some 97, op := Op.call { callee := Callee.builtin Builtin.append, args := #[Operand.tmp 92, Operand.tmp 96], argTypes := #[29, 29] }, type := 29, pos := "sessions.go:361", after := #[{ on := 4, ground := Ground.data }, { on := 8, ground := Ground.data }, { on := 3, ground := Ground.chain }], guard := none }) rfl (fun K hK => ?_) ?_
                    ·
                      refine wp_append_rowB _ _ (by rfl) Tryd.underlying29 stInfo rfl (by decide) (by decide) (by rfl) HB.out.q ([pkSt n, (St.mk xk (m : Nat) be co)].map St.cs) (st_all _) ⟨b8, 0, none⟩ 2 2 (by rfl) rfl (HB.out.cells (cs := [Value.int .i64 9, .int .i64 (n : Nat), .bool false, .bool false, .int .i64 xk, .int .i64 (m : Nat), .bool be, .bool co]) (T := 28) (by simp) rfl) (by simp only [List.length_map, List.length_append, List.length_cons, List.length_nil, wSt_len]; have := HTL.out; omega) HB.out.gr.size ?_
                      intro v9 c61 ho hg hb
                      have hN := Lib.hid (HB.out.addQ (ds := [pkSt n, (St.mk xk (m : Nat) be co)]) ho hg hb)
                      clear ho hg hb HB
                      have HB := hN
                      clear hN
                      refine hK.out _ _ (HB.out.four (K := Kb) (k := xk) (sz := (m : Nat)) (be := be) (co := co) (by simp)) (fun hHeld => ?_)
                      clear hK K
                      try simp only [Act.put, List.setIfInBounds_toArray, List.set_cons_zero, List.set_cons_succ]
                      refine wpAnyH_ready (rs := [13]) (by kernel_rfl) (by simp) ?_
                      refine AllReadyH.cons (o := { dst := some 101, op := Op.call { callee := Callee.builtin Builtin.append, args := #[Operand.tmp 98, Operand.tmp 100], argTypes := #[43, 43] }, type := 43, pos := "sessions.go:361", after := #[{ on := 10, ground := Ground.data }, { on := 12, ground := Ground.data }, { on := 9, ground := Ground.chain }], guard := none }) rfl (fun K hK => ?_) ?_
                      ·
                        obtain ⟨us, a1, a2, a3⟩ := HB.out.s.ex
                        have hu4 := HEU.out _ (fun z hz => (HB.out.e z (by simp [hz])).1)
                        have HUS := Lib.hid a1
                        refine wp_append_rowB _ _ (by rfl) Tryd.underlying43 u8sInfo rfl (by decide) (by decide) (by rfl) a2 [[.slice pz nz cz]] (sl_one _ _ _) ⟨b12, 0, none⟩ 1 1 (by rfl) rfl (HB.out.cells (cs := [Value.slice pz nz cz]) (T := 24) (by simp) rfl) (by rw [List.length_map, HUS.out]; simp only [List.length_cons, List.length_map]; have := HTL.out; omega) HB.out.gr.size ?_
                        intro v13 c62 ho hg hb
                        have hN := Lib.hid (HB.out.addS us a1 a2 a3 hu4 ho hg hb)
                        clear a2 a3 hu4 a1
                        clear ho hg hb HB
                        have HB := hN
                        clear hN
                        refine hK.out _ _ (HB.out.four (K := Kb) (k := xk) (sz := (m : Nat)) (be := be) (co := co) (by simp)) (fun hHeld => ?_)
                        clear hK K
                        try simp only [Act.put, List.setIfInBounds_toArray, List.set_cons_zero, List.set_cons_succ]
                        refine wpAnyH_take (i := 14) (oi := { dst := some 10, op := Op.assign (Operand.tmp 91), type := 29, pos := "sessions.go:361", after := #[{ on := 3, ground := Ground.data }, { on := 13, ground := Ground.chain }, { on := 0, ground := Ground.phase }, { on := 1, ground := Ground.phase }, { on := 2, ground := Ground.phase }, { on := 3, ground := Ground.phase }, { on := 4, ground := Ground.textOnly Departure.lateStores }, { on := 5, ground := Ground.textOnly Departure.lateStores }, { on := 6, ground := Ground.textOnly Departure.lateStores }, { on := 7, ground := Ground.textOnly Departure.lateStores }, { on := 8, ground := Ground.textOnly Departure.lateStores }, { on := 9, ground := Ground.textOnly Departure.lateStoresUnsure }, { on := 10, ground := Ground.textOnly Departure.lateStores }, { on := 11, ground := Ground.textOnly Departure.lateStores }, { on := 12, ground := Ground.textOnly Departure.lateStores }, { on := 13, ground := Ground.textOnly Departure.lateStoresUnsure }], guard := none }) (v := ?_) rfl (by kernel_rfl) (by kernel_rfl) (by kernel_rfl) (fun _ _ _ h => h) (Or.inl ⟨by rfl, ?_⟩) (by assumption) ?_
                        rotate_left
                        · (intro w hSw; (try dsimp only at hSw); go_simp; try with_reducible rfl)
                        try simp only [Act.put, List.setIfInBounds_toArray, List.set_cons_zero, List.set_cons_succ]
                        refine wpAnyH_take (i := 15) (oi := { dst := some 8, op := Op.assign (Operand.tmp 97), type := 29, pos := "sessions.go:361", after := #[{ on := 9, ground := Ground.data }, { on := 14, ground := Ground.chain }, { on := 0, ground := Ground.phase }, { on := 1, ground := Ground.phase }, { on := 2, ground := Ground.phase }, { on := 3, ground := Ground.phase }, { on := 4, ground := Ground.phase }, { on := 5, ground := Ground.phase }, { on := 6, ground := Ground.phase }, { on := 7, ground := Ground.phase }, { on := 8, ground := Ground.phase }, { on := 9, ground := Ground.phase }, { on := 10, ground := Ground.textOnly Departure.lateStores }, { on := 11, ground := Ground.textOnly Departure.lateStores }, { on := 12, ground := Ground.textOnly Departure.lateStores }, { on := 13, ground := Ground.textOnly Departure.lateStoresUnsure }, { on := 14, ground := Ground.phase }], guard := none }) (v := ?_) rfl (by kernel_rfl) (by kernel_rfl) (by kernel_rfl) (fun _ _ _ h => h) (Or.inl ⟨by rfl, ?_⟩) (by assumption) ?_
                        rotate_left
                        · (intro w hSw; (try dsimp only at hSw); go_simp; try with_reducible rfl)
                        try simp only [Act.put, List.setIfInBounds_toArray, List.set_cons_zero, List.set_cons_succ]
                        refine wpAnyH_take (i := 16) (oi := { dst := some 9, op := Op.assign (Operand.tmp 101), type := 43, pos := "sessions.go:361", after := #[{ on := 13, ground := Ground.data }, { on := 15, ground := Ground.chain }, { on := 0, ground := Ground.phase }, { on := 1, ground := Ground.phase }, { on := 2, ground := Ground.phase }, { on := 3, ground := Ground.phase }, { on := 4, ground := Ground.phase }, { on := 5, ground := Ground.phase }, { on := 6, ground := Ground.phase }, { on := 7, ground := Ground.phase }, { on := 8, ground := Ground.phase }, { on := 9, ground := Ground.phase }, { on := 10, ground := Ground.phase }, { on := 11, ground := Ground.phase }, { on := 12, ground := Ground.phase }, { on := 13, ground := Ground.phase }, { on := 14, ground := Ground.phase }, { on := 15, ground := Ground.phase }], guard := none }) (v := ?_) rfl (by kernel_rfl) (by kernel_rfl) (by kernel_rfl) (fun _ _ _ h => h) (Or.inl ⟨by rfl, ?_⟩) (by assumption) ?_
                        rotate_left
                        · (intro w hSw; (try dsimp only at hSw); go_simp; try with_reducible rfl)
                        try simp only [Act.put, List.setIfInBounds_toArray, List.set_cons_zero, List.set_cons_succ]
                        refine wpAnyH_done (by kernel_rfl) ?_ _
                        go_wp2_with fail
                        go_roundw
                        case rel => exact ⟨j + 1, ts ++ [Tr.mk (St.mk xk (m : Nat) be co) g n sh], q, by go_num, ⟨HB.out.next ts (Tr.mk (St.mk xk (m : Nat) be co) g n sh) (fun z hz => by simp [hz]), by omega, by rw [List.length_append]; simp; omega, HR1'.out, HR2'.out⟩⟩
                        case measure => simp [intOf]; omega
                      exact AllReadyH.nil
                    exact AllReadyH.nil
                  exact AllReadyH.nil
                exact AllReadyH.nil
              refine AllReadyH.cons (o := { dst := some 96, op := Op.buildSlice 29 2 #[(0, Operand.tmp 94), (1, Operand.tmp 95)], type := 29, pos := "sessions.go:361", after := #[{ on := 6, ground := Ground.data }, { on := 7, ground := Ground.data }], guard := none }) rfl (fun K hK => ?_) ?_
              ·
                have hN : Hid (Bun w (c53.alloc (.cells #[Value.int .i64 9, .int .i64 (n : Nat), .bool false, .bool false, .int .i64 xk, .int .i64 (m : Nat), .bool be, .bool co] 28)) r u10 u8 u9 (ts.map Tr.x) (pkSt n0 :: wSt ts) (s0 :: ts.map Tr.s) q ((c53.heap.size, [Value.int .i64 9, .int .i64 (n : Nat), .bool false, .bool false, .int .i64 xk, .int .i64 (m : Nat), .bool be, .bool co], 28) :: (b12, [Value.slice pz nz cz], 24) :: exU ++ (Kb, [Value.int .i64 xk, .int .i64 (m : Nat), .bool be, .bool co], 28) :: exs)) := Lib.hid (HB.out.new [Value.int .i64 9, .int .i64 (n : Nat), .bool false, .bool false, .int .i64 xk, .int .i64 (m : Nat), .bool be, .bool co] 28)
                clear HB
                have HB := hN
                clear hN
                go_simp
                generalize c53.heap.size = b8 at *
                generalize hcc : c53.alloc (.cells #[Value.int .i64 9, .int .i64 (n : Nat), .bool false, .bool false, .int .i64 xk, .int .i64 (m : Nat), .bool be, .bool co] 28) = c63 at *
                clear hcc
                refine hK.out _ _ (HB.out.four (K := Kb) (k := xk) (sz := (m : Nat)) (be := be) (co := co) (by simp)) (fun hHeld => ?_)
                clear hK K
                try simp only [Act.put, List.setIfInBounds_toArray, List.set_cons_zero, List.set_cons_succ]
                refine wpAnyH_ready (rs := [2]) (by kernel_rfl) (by simp) ?_
                refine AllReadyH.cons (o := { dst := some 90, op := Op.buildSlice 29 1 #[(0, Operand.tmp 89)], type := 29, pos := "sessions.go:361", after := #[{ on := 1, ground := Ground.data }], guard := none }) rfl (fun K hK => ?_) ?_
                ·
                  have hN : Hid (Bun w (c63.alloc (.cells #[Value.int .i64 xk, .int .i64 (m : Nat), .bool be, .bool co] 28)) r u10 u8 u9 (ts.map Tr.x) (pkSt n0 :: wSt ts) (s0 :: ts.map Tr.s) q ((c63.heap.size, [Value.int .i64 xk, .int .i64 (m : Nat), .bool be, .bool co], 28) :: (b8, [Value.int .i64 9, .int .i64 (n : Nat), .bool false, .bool false, .int .i64 xk, .int .i64 (m : Nat), .bool be, .bool co], 28) :: (b12, [Value.slice pz nz cz], 24) :: exU ++ (Kb, [Value.int .i64 xk, .int .i64 (m : Nat), .bool be, .bool co], 28) :: exs)) := Lib.hid (HB.out.new [Value.int .i64 xk, .int .i64 (m : Nat), .bool be, .bool co] 28)
                  clear HB
                  have HB := hN
                  clear hN
                  go_simp
                  generalize c63.heap.size = b2 at *
                  generalize hcc : c63.alloc (.cells #[Value.int .i64 xk, .int .i64 (m : Nat), .bool be, .bool co] 28) = c64 at *
                  clear hcc
                  refine hK.out _ _ (HB.out.four (K := Kb) (k := xk) (sz := (m : Nat)) (be := be) (co := co) (by simp)) (fun hHeld => ?_)
                  clear hK K
                  try simp only [Act.put, List.setIfInBounds_toArray, List.set_cons_zero, List.set_cons_succ]
                  refine wpAnyH_ready (rs := [3]) (by kernel_rfl) (by simp) ?_
                  refine AllReadyH.cons (o := { dst := some 91, op := Op.call { callee := Callee.builtin Builtin.append, args := #[Operand.tmp 88, Operand.tmp 90], argTypes := #[29, 29] }, type := 29, pos := "sessions.go:361", after := #[{ on := 0, ground := Ground.data }, { on := 2, ground := Ground.data }], guard := none }) rfl (fun K hK => ?_) ?_
                  ·
                    refine wp_append_rowB _ _ (by rfl) Tryd.underlying29 stInfo rfl (by decide) (by decide) (by rfl) HB.out.p ([(St.mk xk (m : Nat) be co)].map St.cs) (st_all _) ⟨b2, 0, none⟩ 1 1 (by rfl) rfl (HB.out.cells (cs := [Value.int .i64 xk, .int .i64 (m : Nat), .bool be, .bool co]) (T := 28) (by simp) rfl) (by simp only [List.length_map, List.length_append, List.length_cons, List.length_nil, wSt_len]; have := HTL.out; omega) HB.out.gr.size ?_
                    intro v3 c65 ho hg hb
                    have hN := Lib.hid (HB.out.addP (ds := [(St.mk xk (m : Nat) be co)]) ho hg hb)
                    clear ho hg hb HB
                    have HB := hN
                    clear hN
                    refine hK.out _ _ (HB.out.four (K := Kb) (k := xk) (sz := (m : Nat)) (be := be) (co := co) (by simp)) (fun hHeld => ?_)
                    clear hK K
                    try simp only [Act.put, List.setIfInBounds_toArray, List.set_cons_zero, List.set_cons_succ]
                    refine wpAnyH_ready (rs := [9]) (by kernel_rfl) (by simp) ?_
                    refine AllReadyH.cons (o := { dst := some 97, op := Op.call { callee := Callee.builtin Builtin.append, args := #[Operand.tmp 92, Operand.tmp 96], argTypes := #[29, 29] }, type := 29, pos := "sessions.go:361", after := #[{ on := 4, ground := Ground.data }, { on := 8, ground := Ground.data }, { on := 3, ground := Ground.chain }], guard := none }) rfl (fun K hK => ?_) ?_
                    ·
                      refine wp_append_rowB _ _ (by rfl) Tryd.underlying29 stInfo rfl (by decide) (by decide) (by rfl) HB.out.q ([pkSt n, (St.mk xk (m : Nat) be co)].map St.cs) (st_all _) ⟨b8, 0, none⟩ 2 2 (by rfl) rfl (HB.out.cells (cs := [Value.int .i64 9, .int .i64 (n : Nat), .bool false, .bool false, .int .i64 xk, .int .i64 (m : Nat), .bool be, .bool co]) (T := 28) (by simp) rfl) (by simp only [List.length_map, List.length_append, List.length_cons, List.length_nil, wSt_len]; have := HTL.out; omega) HB.out.gr.size ?_
                      intro v9 c66 ho hg hb
                      have hN := Lib.hid (HB.out.addQ (ds := [pkSt n, (St.mk xk (m : Nat) be co)]) ho hg hb)
                      clear ho hg hb HB
                      have HB := hN
                      clear hN
                      refine hK.out _ _ (HB.out.four (K := Kb) (k := xk) (sz := (m : Nat)) (be := be) (co := co) (by simp)) (fun hHeld => ?_)
                      clear hK K
                      try simp only [Act.put, List.setIfInBounds_toArray, List.set_cons_zero, List.set_cons_succ]
                      refine wpAnyH_ready (rs := [13]) (by kernel_rfl) (by simp) ?_
                      refine AllReadyH.cons (o := { dst := some 101, op := Op.call { callee := Callee.builtin Builtin.append, args := #[Operand.tmp 98, Operand.tmp 100], argTypes := #[43, 43] }, type := 43, pos := "sessions.go:361", after := #[{ on := 10, ground := Ground.data }, { on := 12, ground := Ground.data }, { on := 9, ground := Ground.chain }], guard := none }) rfl (fun K hK => ?_) ?_
                      ·
                        obtain ⟨us, a1, a2, a3⟩ := HB.out.s.ex
                        have hu4 := HEU.out _ (fun z hz => (HB.out.e z (by simp [hz])).1)
                        have HUS := Lib.hid a1
                        refine wp_append_rowB _ _ (by rfl) Tryd.underlying43 u8sInfo rfl (by decide) (by decide) (by rfl) a2 [[.slice pz nz cz]] (sl_one _ _ _) ⟨b12, 0, none⟩ 1 1 (by rfl) rfl (HB.out.cells (cs := [Value.slice pz nz cz]) (T := 24) (by simp) rfl) (by rw [List.length_map, HUS.out]; simp only [List.length_cons, List.length_map]; have := HTL.out; omega) HB.out.gr.size ?_
                        intro v13 c67 ho hg hb
                        have hN := Lib.hid (HB.out.addS us a1 a2 a3 hu4 ho hg hb)
                        clear a2 a3 hu4 a1
                        clear ho hg hb HB
                        have HB := hN
                        clear hN
                        refine hK.out _ _ (HB.out.four (K := Kb) (k := xk) (sz := (m : Nat)) (be := be) (co := co) (by simp)) (fun hHeld => ?_)
                        clear hK K
                        try simp only [Act.put, List.setIfInBounds_toArray, List.set_cons_zero, List.set_cons_succ]
                        refine wpAnyH_take (i := 14) (oi := { dst := some 10, op := Op.assign (Operand.tmp 91), type := 29, pos := "sessions.go:361", after := #[{ on := 3, ground := Ground.data }, { on := 13, ground := Ground.chain }, { on := 0, ground := Ground.phase }, { on := 1, ground := Ground.phase }, { on := 2, ground := Ground.phase }, { on := 3, ground := Ground.phase }, { on := 4, ground := Ground.textOnly Departure.lateStores }, { on := 5, ground := Ground.textOnly Departure.lateStores }, { on := 6, ground := Ground.textOnly Departure.lateStores }, { on := 7, ground := Ground.textOnly Departure.lateStores }, { on := 8, ground := Ground.textOnly Departure.lateStores }, { on := 9, ground := Ground.textOnly Departure.lateStoresUnsure }, { on := 10, ground := Ground.textOnly Departure.lateStores }, { on := 11, ground := Ground.textOnly Departure.lateStores }, { on := 12, ground := Ground.textOnly Departure.lateStores }, { on := 13, ground := Ground.textOnly Departure.lateStoresUnsure }], guard := none }) (v := ?_) rfl (by kernel_rfl) (by kernel_rfl) (by kernel_rfl) (fun _ _ _ h => h) (Or.inl ⟨by rfl, ?_⟩) (by assumption) ?_
                        rotate_left
                        · (intro w hSw; (try dsimp only at hSw); go_simp; try with_reducible rfl)
                        try simp only [Act.put, List.setIfInBounds_toArray, List.set_cons_zero, List.set_cons_succ]
                        refine wpAnyH_take (i := 15) (oi := { dst := some 8, op := Op.assign (Operand.tmp 97), type := 29, pos := "sessions.go:361", after := #[{ on := 9, ground := Ground.data }, { on := 14, ground := Ground.chain }, { on := 0, ground := Ground.phase }, { on := 1, ground := Ground.phase }, { on := 2, ground := Ground.phase }, { on := 3, ground := Ground.phase }, { on := 4, ground := Ground.phase }, { on := 5, ground := Ground.phase }, { on := 6, ground := Ground.phase }, { on := 7, ground := Ground.phase }, { on := 8, ground := Ground.phase }, { on := 9, ground := Ground.phase }, { on := 10, ground := Ground.textOnly Departure.lateStores }, { on := 11, ground := Ground.textOnly Departure.lateStores }, { on := 12, ground := Ground.textOnly Departure.lateStores }, { on := 13, ground := Ground.textOnly Departure.lateStoresUnsure }, { on := 14, ground := Ground.phase }], guard := none }) (v := ?_) rfl (by kernel_rfl) (by kernel_rfl) (by kernel_rfl) (fun _ _ _ h => h) (Or.inl ⟨by rfl, ?_⟩) (by assumption) ?_
                        rotate_left
                        · (intro w hSw; (try dsimp only at hSw); go_simp; try with_reducible rfl)
                        try simp only [Act.put, List.setIfInBounds_toArray, List.set_cons_zero, List.set_cons_succ]
                        refine wpAnyH_take (i := 16) (oi := { dst := some 9, op := Op.assign (Operand.tmp 101), type := 43, pos := "sessions.go:361", after := #[{ on := 13, ground := Ground.data }, { on := 15, ground := Ground.chain }, { on := 0, ground := Ground.phase }, { on := 1, ground := Ground.phase }, { on := 2, ground := Ground.phase }, { on := 3, ground := Ground.phase }, { on := 4, ground := Ground.phase }, { on := 5, ground := Ground.phase }, { on := 6, ground := Ground.phase }, { on := 7, ground := Ground.phase }, { on := 8, ground := Ground.phase }, { on := 9, ground := Ground.phase }, { on := 10, ground := Ground.phase }, { on := 11, ground := Ground.phase }, { on := 12, ground := Ground.phase }, { on := 13, ground := Ground.phase }, { on := 14, ground := Ground.phase }, { on := 15, ground := Ground.phase }], guard := none }) (v := ?_) rfl (by kernel_rfl) (by kernel_rfl) (by kernel_rfl) (fun _ _ _ h => h) (Or.inl ⟨by rfl, ?_⟩) (by assumption) ?_
                        rotate_left
                        · (intro w hSw; (try dsimp only at hSw); go_simp; try with_reducible rfl)
                        try simp only [Act.put, List.setIfInBounds_toArray, List.set_cons_zero, List.set_cons_succ]
                        refine wpAnyH_done (by kernel_rfl) ?_ _
                        go_wp2_with fail
                        go_roundw
                        case rel => exact ⟨j + 1, ts ++ [Tr.mk (St.mk xk (m : Nat) be co) g n sh], q, by go_num, ⟨HB.out.next ts (Tr.mk (St.mk xk (m : Nat) be co) g n sh) (fun z hz => by simp [hz]), by omega, by rw [List.length_append]; simp; omega, HR1'.out, HR2'.out⟩⟩
                        case measure => simp [intOf]; omega
                      exact AllReadyH.nil
                    exact AllReadyH.nil
                  exact AllReadyH.nil
                exact AllReadyH.nil
              exact AllReadyH.nil
            exact AllReadyH.nil
          · go_wp2_with fail
            go_meet
            exact hend.out _ ((Gr.refl w5).alloc _)
        · go_wp2_with fail
          go_meet
          exact hend.out _ ((Gr.refl w5).alloc _)
      · obtain rfl : nl = j := by omega
        have HINV := Lib.hid hinv
        clear hinv
        go_wp2_with fail
        go_meet
        exact ⟨ts, xs, HINV.out.b.p, HINV.out.b.q, HINV.out.b.s, HINV.out.b.gr, by have := HINV.out.tl; omega, HINV.out.r1, HINV.out.r2⟩
  case rest =>
    clear hB0 HASK HSTL HEX hexT hPK0 HU0 HL HNL
    obtain ⟨ts, xs, hp, hq, hs, hgr, htl, hr1, hr2⟩ := hcut
    have hp2 := hp.rd
    have hq2 := hq.rd
    have HSX := fun W a1 a2 a3 a4 => Lib.hid (sessionGet a1 u10 inp (ts.map Tr.x) big (ts.map Tr.g) (some xs) E W a2 a3 (by rw [HNI.out]; omega) a4 (by rw [List.length_map]; omega) hr1)
    have HSY := fun W a1 a2 a3 a4 => Lib.hid (sessionGet a1 u8 inp (pkSt n0 :: wSt ts) big (pkG s0 :: wG ts) (some xs) E W a2 a3 (by rw [HNI.out]; omega) a4 (by rw [List.length_cons, wSt_len]; omega) hr2)
    have HPP := Lib.hid hp2
    have HQQ := Lib.hid hq2
    have HGR := Lib.hid hgr
    obtain ⟨bs, cs, rfl, hcs1, hcs2, hsat⟩ := hs.at' hgr (by simp)
    have HSAT := Lib.hid hsat
    obtain ⟨p10, c10, rfl, hc10, hm10, hx10⟩ := id hp2
    obtain ⟨p8, c8, rfl, hc8, hm8, hx8⟩ := id hq2
    obtain ⟨nt, hnt⟩ : ∃ nt, ts.length = nt := ⟨_, rfl⟩
    obtain ⟨ny, hny⟩ : ∃ ny, 2 * nt + 1 = ny := ⟨_, rfl⟩
    rw [List.length_map, hnt] at hc10 HPP HSX ⊢
    rw [List.length_cons, wSt_len, hnt, hny] at hc8 HQQ HSY ⊢
    rw [List.length_cons, List.length_map, hnt] at hcs1 ⊢
    obtain ⟨ns, hns⟩ : ∃ ns, nt + 1 = ns := ⟨_, rfl⟩
    rw [hns] at hcs1 ⊢
    have hcs3 : cs ≤ 9223372036854775807 := by simp only [maxLen] at hcs2; omega
    have hc103 : c10 ≤ 9223372036854775807 := by simp only [maxLen] at hm10; omega
    have hc83 : c8 ≤ 9223372036854775807 := by simp only [maxLen] at hm8; omega
    rw [hnt] at htl
    have HNT := Lib.hid hnt
    have HNY := Lib.hid hny
    have HNS := Lib.hid hns
    clear hp hq hs hgr hr1 hr2 hp2 hq2 hsat hx10 hx8 hm10 hm8 hcs2 hnt hny hns
    have tok1 : True := trivial
    have tok2 : True := trivial
    go_wp2_with (first
      | (go_at_call 16; have _t := tok1; go_must (refine (HCL _ (HI.out.gr HGR.out)).out.mono ?_); rintro e w6 ⟨u6, rfl, ho6, hg6⟩; have HO6 := Lib.hid ho6.rd; have HG6 := Lib.hid (HGR.out.trans hg6); have HP6 := Lib.hid (HPP.out.gr hg6); have HQ6 := Lib.hid (HQQ.out.gr hg6); have HSG := Lib.hid hg6; clear ho6 hg6 tok1 _t)
      | (go_at_call 13; have _t := tok2; go_must (refine (HSX _ _ (HE.out.gr HG6.out) HO6.out HP6.out).out.mono ?_); rintro e w7 ⟨gx, lx, left, rfl, hog, hol, hlf, hg7⟩; obtain rfl := hlf _ rfl; have HX := Lib.hid hog; have HLX := Lib.hid hol.rd; have HG7 := Lib.hid (HG6.out.trans hg7); have HQ7 := Lib.hid (HQ6.out.gr hg7); have HSG7 := Lib.hid (HSG.out.trans hg7); obtain ⟨px, cx, rfl⟩ := hog.len; rw [List.length_map, HNT.out] at HX ⊢; obtain ⟨plx, clx, rfl, _⟩ := id hol.rd; clear hog hol hlf hg7 tok2 _t HSG)
      | (go_at_call 16; go_must (refine (HCL _ (HI.out.gr HG7.out)).out.mono ?_); rintro e w8 ⟨u8', rfl, ho8, hg8⟩; have HO8 := Lib.hid ho8.rd; have HG8 := Lib.hid (HG7.out.trans hg8); have HQ8 := Lib.hid (HQ7.out.gr hg8); have HX8 := Lib.hid (HX.out.gr hg8); have HLX8 := Lib.hid (HLX.out.gr hg8); have HSG8 := Lib.hid (HSG7.out.trans hg8); clear ho8 hg8)
      | (go_at_call 13; go_must (refine (HSY _ _ (HE.out.gr HG8.out) HO8.out HQ8.out).out.mono ?_); rintro e w9 ⟨gy, ly, lefty, rfl, hog, hol, hlf, hg9⟩; have hle := hlf _ rfl; have HY := Lib.hid hog; have HLY := Lib.hid (show Rd w9 ly left by rw [← hle]; exact hol.rd); have HX9 := Lib.hid (HX8.out.gr hg9); have HLX9 := Lib.hid (HLX8.out.gr hg9); have HG9 := Lib.hid (HG8.out.trans hg9); have HSG9 := Lib.hid (HSG8.out.trans hg9); obtain ⟨py, cy, rfl⟩ := hog.len; rw [List.length_cons, wG_len, HNT.out, HNY.out] at HY ⊢; obtain ⟨ply, cly, rfl, _⟩ := id HLY.out; clear hog hol hlf hg9 hle))
    obtain ⟨by0, cy0, hye, _, hcy2, _, hyat⟩ := HY.out.rows (by simp)
    simp only [Value.slice.injEq] at hye
    obtain ⟨rfl, hx1, rfl⟩ := hye
    clear hx1
    obtain ⟨d0, o0, ⟨y0, y1, _, _, _, y5, _⟩, _⟩ := hyat 0 _ rfl
    rw [show 5 * 0 = 0 from rfl] at y0 y1
    change w9.cell? ⟨by0, 1, none⟩ = some d0 at y1
    change w9.cell? ⟨by0, 0, none⟩ = some (.bool true) at y0
    change Rd w9 d0 s0 at y5
    obtain ⟨v0, q0, q5⟩ := HSAT.out 0 s0 rfl
    replace q0 := HSG9.out.cell q0
    replace q5 := q5.gr HSG9.out
    have HE1 := fun W (g : Gr w9 W) => Lib.hid (equal_same (.slice plx left.length clx) (.slice ply left.length cly) left W (HLX9.out.gr g) (HLY.out.gr g))
    obtain ⟨pd0, cd0, rfl, _⟩ := id y5
    obtain ⟨pv0, cv0, rfl, _⟩ := id q5
    have HE2 := fun W (g : Gr w9 W) => Lib.hid (equal_same (.slice pd0 s0.length cd0) (.slice pv0 s0.length cv0) s0 W (y5.gr g) (q5.gr g))
    have HYAT := Lib.hid hyat
    have HY5 := Lib.hid y5
    have hny1 : 0 < ny := by have := HNY.out; omega
    have hny2 : (0 : Int) < (ny : Int) := by omega
    have hns1 : 0 < ns := by have := HNS.out; omega
    have hns2 : (0 : Int) < (ns : Int) := by omega
    clear hyat y5 q5
    generalize left.length = ll at *
    generalize s0.length = l0 at *
    go_region_held3 (fun w' => w'.cell? ⟨by0, 0, none⟩ = some (.bool true) ∧ w'.cell? ⟨by0, 1, none⟩ = some (.slice pd0 l0 cd0) ∧ w'.cell? ⟨bs, 0, none⟩ = some (.slice pv0 l0 cv0)) (go_keep)
      ((first
        | (go_at_call 17; with_reducible refine (HE1 _ (Gr.refl w9).drew).out.mono ?_; rintro e wq ⟨rfl, rfl⟩)
        | (go_at_call 17; with_reducible refine (HE2 _ (Gr.refl w9).drew).out.mono ?_; rintro e wq ⟨rfl, rfl⟩)))
    clear HE1 HE2 y0 y1 q0
    go_wp2_with fail
    go_loopw [157] (fun i wr => ∃ k : Nat, i = .int .i64 k ∧ k ≤ nt ∧ Gr w9 wr) (fun i _ => ((nt : Int) - intOf i).toNat)
    case atStart => exact ⟨0, rfl, Nat.zero_le _, (Gr.refl w9).drew⟩
    case round =>
      obtain ⟨k, rfl, hk, hgr⟩ := hrel
      by_cases e : k < nt
      · have hkt : k < ts.length := by rw [HNT.out]; exact e
        obtain ⟨bx, cx0, hxe, _, hcx2, _, hxat⟩ := HX9.out.rows (by
          intro h
          have h2 := congrArg List.length h
          rw [List.length_map, HNT.out] at h2
          simp at h2
          omega)
        simp only [Value.slice.injEq] at hxe
        obtain ⟨rfl, hx1, rfl⟩ := hxe
        clear hx1
        obtain ⟨dx, ox, ⟨a0, a1, a2, a3, a4, a5, a6⟩, _⟩ := hxat k ts[k].g (by rw [List.getElem?_map, List.getElem?_eq_getElem hkt]; rfl)
        obtain ⟨wat1, wat2⟩ := wG_at ts k hkt
        obtain ⟨dy, oy, ⟨b0, b1, b2, b3, b4, b5, b6⟩, _⟩ := HYAT.out (2 * k + 2) ts[k].g (by rw [List.getElem?_cons_succ]; exact wat2)
        obtain ⟨dz, oz, ⟨z0, z1, _, _, _, z5, _⟩, _⟩ := HYAT.out (2 * k + 1) (pkG ts[k].s) (by rw [List.getElem?_cons_succ]; exact wat1)
        obtain ⟨vs, q0, q5⟩ := HSAT.out (k + 1) ts[k].s (by rw [List.getElem?_cons_succ, List.getElem?_map, List.getElem?_eq_getElem hkt]; rfl)
        change w9.cell? ⟨by0, 5 * (2 * k + 1), none⟩ = some (.bool true) at z0
        change Rd w9 dz ts[k].s at z5
        generalize ts[k].s = sk at *
        generalize ts[k].g = gk at *
        obtain ⟨k1, hk1⟩ : ∃ k1, k + 1 = k1 := ⟨_, rfl⟩
        obtain ⟨kd, hkd⟩ : ∃ kd, 2 * k = kd := ⟨_, rfl⟩
        obtain ⟨ka, hka⟩ : ∃ ka, kd + 2 = ka := ⟨_, rfl⟩
        obtain ⟨kb, hkb⟩ : ∃ kb, kd + 1 = kb := ⟨_, rfl⟩
        rw [hkd, hka, Nat.mul_comm 5 ka] at b0 b1 b2 b3 b4
        rw [hkd, hkb, Nat.mul_comm 5 kb] at z0 z1
        rw [Nat.mul_comm 5 k] at a0 a1 a2 a3 a4
        rw [hk1] at q0
        have hny := HNY.out
        have hns := HNS.out
        have e1 : IntKind.i64.wrap (2 * (k : Int)) = (kd : Int) := by simp only [IntKind.wrap_i64]; omega
        have e2 : IntKind.i64.wrap ((kd : Int) + 2) = (ka : Int) := by simp only [IntKind.wrap_i64]; omega
        have e3 : IntKind.i64.wrap ((kd : Int) + 1) = (kb : Int) := by simp only [IntKind.wrap_i64]; omega
        have e4 : IntKind.i64.wrap ((k : Int) + 1) = (k1 : Int) := by simp only [IntKind.wrap_i64]; omega
        have i1 : ka < ny := by omega
        have i2 : kb < ny := by omega
        have i3 : k1 < ns := by omega
        have j1 : (ka : Int) < (ny : Int) := by omega
        have j2 : (kb : Int) < (ny : Int) := by omega
        have j3 : (k1 : Int) < (ns : Int) := by omega
        have j4 : (0 : Int) ≤ (ka : Int) := by omega
        have j5 : (0 : Int) ≤ (kb : Int) := by omega
        have j6 : (0 : Int) ≤ (k1 : Int) := by omega
        have H1 := Lib.hid (And.intro hk1 (And.intro hkd (And.intro hka hkb)))
        have A := Lib.hid (And.intro a5 (And.intro a6 (And.intro b5 (And.intro b6 (And.intro z5 (q5.gr HSG9.out))))))
        replace a0 := hgr.cell a0; replace a1 := hgr.cell a1; replace a2 := hgr.cell a2; replace a3 := hgr.cell a3; replace a4 := hgr.cell a4
        replace b0 := hgr.cell b0; replace b1 := hgr.cell b1; replace b2 := hgr.cell b2; replace b3 := hgr.cell b3; replace b4 := hgr.cell b4
        replace z0 := hgr.cell z0; replace z1 := hgr.cell z1
        replace q0 := hgr.cell (HSG9.out.cell q0)
        obtain ⟨pdx, cdx, rfl, _⟩ := id a5
        obtain ⟨pox, cox, rfl, _⟩ := id a6
        obtain ⟨pdy, cdy, rfl, _⟩ := id b5
        obtain ⟨poy, coy, rfl, _⟩ := id b6
        obtain ⟨pdz, cdz, rfl, _⟩ := id z5
        obtain ⟨pvs, cvs, rfl, _⟩ := id q5
        have HSG := fun W (g : Gr w9 W) => Lib.hid (sameGot gk (.slice pdx gk.d.length cdx) (.slice pox gk.o.length cox) (.slice pdy gk.d.length cdy) (.slice poy gk.o.length coy) W (A.out.1.gr g) (A.out.2.1.gr g) (A.out.2.2.1.gr g) (A.out.2.2.2.1.gr g))
        have HEQ := fun W (g : Gr w9 W) => Lib.hid (equal_same (.slice pdz sk.length cdz) (.slice pvs sk.length cvs) sk W (A.out.2.2.2.2.1.gr g) (A.out.2.2.2.2.2.gr g))
        unfold G.val at HSG
        have HGR9 := Lib.hid hgr
        have HK := Lib.hid e
        clear a5 a6 b5 b6 z5 q5 hk1 hkd hka hkb hny hns hxat wat1 wat2 hgr
        generalize gk.d.length = ld at *
        generalize gk.o.length = lo at *
        generalize sk.length = lk at *
        go_wp2_with fail
        go_region_held3 (fun w' => w'.cell? ⟨bx, k * 5, none⟩ = some (.bool gk.ok) ∧ w'.cell? ⟨bx, k * 5 + 1, none⟩ = some (.slice pdx ld cdx) ∧ w'.cell? ⟨bx, k * 5 + 2, none⟩ = some (.slice pox lo cox) ∧ w'.cell? ⟨bx, k * 5 + 3, none⟩ = some (.int .i64 gk.n) ∧ w'.cell? ⟨bx, k * 5 + 4, none⟩ = some (.string gk.t) ∧
            w'.cell? ⟨by0, ka * 5, none⟩ = some (.bool gk.ok) ∧ w'.cell? ⟨by0, ka * 5 + 1, none⟩ = some (.slice pdy ld cdy) ∧ w'.cell? ⟨by0, ka * 5 + 2, none⟩ = some (.slice poy lo coy) ∧ w'.cell? ⟨by0, ka * 5 + 3, none⟩ = some (.int .i64 gk.n) ∧ w'.cell? ⟨by0, ka * 5 + 4, none⟩ = some (.string gk.t) ∧
            w'.cell? ⟨by0, kb * 5, none⟩ = some (.bool true) ∧ w'.cell? ⟨by0, kb * 5 + 1, none⟩ = some (.slice pdz lk cdz) ∧ w'.cell? ⟨bs, k1, none⟩ = some (.slice pvs lk cvs))
          (first
            | (with_reducible exact ⟨hGa.cell a0, hGa.cell a1, hGa.cell a2, hGa.cell a3, hGa.cell a4, hGa.cell b0, hGa.cell b1, hGa.cell b2, hGa.cell b3, hGa.cell b4, hGa.cell z0, hGa.cell z1, hGa.cell q0⟩)
            | (with_reducible exact (let G := (Gr.refl wr).drew; ⟨G.cell a0, G.cell a1, G.cell a2, G.cell a3, G.cell a4, G.cell b0, G.cell b1, G.cell b2, G.cell b3, G.cell b4, G.cell z0, G.cell z1, G.cell q0⟩)))
          ((first
            | (go_at_call 26; go_must (refine (HSG _ (HGR9.out.drew)).out.mono ?_); rintro e wa ⟨rfl, hga⟩; have hGa : Gr wr wa := Gr.trans (Gr.refl wr).drew hga)
            | (go_at_call 17; go_must (refine (HEQ _ (HGR9.out.trans hGa)).out.mono ?_); rintro e wb ⟨rfl, rfl⟩)))
        go_wp2_with fail
        go_roundw
        case rel => exact ⟨k1, rfl, by have := H1.out.1; have := HK.out; omega, HGR9.out.trans hGa⟩
        case measure => have := H1.out.1; have := HK.out; simp [intOf]; omega
      · obtain rfl : nt = k := by omega
        have HGR9 := Lib.hid hgr
        clear hgr
        go_wp2_with (first
          | (go_at_call 14; go_must (refine (HLV _ (HE.out.gr (HG9.out.trans HGR9.out))).out.mono ?_); rintro e wl ⟨rfl, hgl⟩))
        go_ret
        exact ⟨rfl, (HG9.out.trans HGR9.out).trans hgl⟩
theorem lawPeek_z (vi vl : Value) (inp : List Int) (l : List Ak) (big : Bool) (w : World) (hi : Rd w vi inp) (hl : RdAk w vl l) (hE : ∃ E, EndE w E) :
    Calls Tryd.prog 8 #[vi, vl, .bool big] w (RetT w) := by
  obtain ⟨E, hE⟩ := hE
  exact lawPeek vi vl inp l big E w hi hl hl.small hE
end Go.Proofs.YtgkccbfepjgjoaaDoor
