/- slices.CompactFunc over a row of forms of numbers, with bytes.Equal: of neighbours that are one the first stays. The conditions are the premises: how the row lies, that its elements are the forms of numbers. -/
import Derived.Test.YtkaoibjkebiliaaDoorJxA
import Derived.Test.YtkaoibjkebiliaaDoorPkE
import Derived.Shelf.RegionOpenPlain
import Derived.Lib.SliceRun
namespace Go.Proofs.YtkaoibjkebiliaaDoor
open Go Go.RowKit

/-- Block b is a row of slices that holds the elements D at its head. -/
structure RowE (w : World) (b : Nat) (D : Array El) : Prop where
  blk : ∃ cur, w.heap[b]? = some (.cells cur 26 (0, 0))
  cell : ∀ i, i < D.size → w.cell? ⟨b, i, none⟩ = some D[i]!.v
/-- The elements of D are the forms of numbers, in blocks of their own. -/
def FrmE (w : World) (D : Array El) : Prop := ∀ x ∈ D.toList, Own 0 w x.v (formOf x.n) ∧ x.num
theorem RowE.lt {w : World} {b : Nat} {D : Array El} (h : RowE w b D) : b < w.heap.size := by obtain ⟨⟨cur, hb⟩, _⟩ := h; exact lt_of_some hb
theorem RowE.free {w : World} {b : Nat} {D : Array El} (h : RowE w b D) (k : Nat) : w.frozen? ⟨b, k, none⟩ = false := by obtain ⟨⟨cur, hb⟩, _⟩ := h; exact blk_free hb k
theorem RowE.gr {a w : World} {b : Nat} {D : Array El} (h : RowE a b D) (g : Gr a w) : RowE w b D := by
  obtain ⟨⟨cur, hb⟩, hc⟩ := h
  exact ⟨⟨cur, g.heap hb⟩, fun i hi => g.cell (hc i hi)⟩
theorem Own.fx {B s : Nat} {a w : World} {v : Value} {xs : List Int} (r : Own B a v xs) (g : Fx s a w) (hs : ∃ cur, a.heap[s]? = some (.cells cur 26 (0, 0))) : Own B w v xs := by
  obtain ⟨⟨h1, h2⟩, h3⟩ := r
  refine ⟨⟨h1, ?_⟩, h3⟩
  rcases h2 with h2 | ⟨k, cap, cur, hv, hg, hh, r⟩
  · exact Or.inl h2
  · refine Or.inr ⟨k, cap, cur, hv, hg, ?_, r⟩
    rw [g.block k (lt_of_some hh) (fun e => ?_)]
    · exact hh
    · injection e with e
      subst e
      obtain ⟨c2, h2⟩ := hs
      rw [hh] at h2
      simp only [Option.some.injEq, Obj.cells.injEq] at h2
      exact absurd h2.2.1 (by decide)
theorem FrmE.fx {s : Nat} {a w : World} {D : Array El} (h : FrmE a D) (g : Fx s a w) (hs : ∃ cur, a.heap[s]? = some (.cells cur 26 (0, 0))) : FrmE w D := fun x hx => ⟨(h x hx).1.fx g hs, (h x hx).2⟩
theorem FrmE.gr {a w : World} {D : Array El} (h : FrmE a D) (g : Gr a w) : FrmE w D := fun x hx => ⟨(h x hx).1.gr g, (h x hx).2⟩
theorem RowE.put {w : World} {b : Nat} {D : Array El} (h : RowE w b D) (i : Nat) (hi : i < D.size) (x : El) : RowE (w.setCell ⟨b, i, none⟩ x.v) b (D.setIfInBounds i x) := by
  refine ⟨?_, fun m hm => ?_⟩
  · obtain ⟨cur, hb⟩ := h.blk
    exact ⟨cur.setIfInBounds i x.v, by simp [World.setCell, Array.getElem?_modify, hb]⟩
  · have hm' : m < D.size := by simpa using hm
    by_cases e : m = i
    · subst e
      rw [getElem!_pos _ m hm, Array.getElem_setIfInBounds_self]
      exact World.cell?_setCell_same _ _ _ (h.cell m hm')
    · rw [World.cell?_setCell_other _ _ _ _ (by intro q; simp only [Addr.mk.injEq] at q; omega)]
      rw [getElem!_pos _ m hm, Array.getElem_setIfInBounds hm', if_neg (Ne.symm e), ← getElem!_pos D m hm']
      exact h.cell m hm'
theorem sgn_zero {a b : Int} (h : sgn a b = 0) : a = b := by
  unfold sgn at h
  split at h
  · cases h
  · split at h
    · cases h
    · omega
theorem form_inj {x y : El} (hx : x.num) (hy : y.num) : decide (formOf x.n = formOf y.n) = decide (x.n = y.n) := by
  by_cases e : x.n = y.n
  · rw [e]; simp
  · have : ¬ formOf x.n = formOf y.n := by
      intro h
      have o := order x.n y.n hx hy
      have o2 := order y.n y.n hy hy
      rw [h, o2] at o
      have s : sgn y.n y.n = 0 := by unfold sgn; simp
      exact e (sgn_zero (o.symm.trans s))
    rw [decide_eq_false e, decide_eq_false this]
theorem equalE (x y : El) (w : World) (hx : Own 0 w x.v (formOf x.n) ∧ x.num) (hy : Own 0 w y.v (formOf y.n) ∧ y.num) :
    Calls Tryd.prog 20 #[x.v, y.v] w fun e w' => e = .returned (.bool (decide (x.n = y.n))) ∧ w' = w :=
  (equal x.v y.v _ _ w hx.1.rd hy.1.rd).mono fun e w' h => ⟨by rw [h.1, form_inj hx.2 hy.2], h.2.symm⟩
theorem at_mem {D : Array El} {i : Nat} (hi : i < D.size) : D[i]! ∈ D.toList := by rw [getElem!_pos D i hi]; simp

theorem zero26 (w : World) : (zeroValue 26).run Tryd.prog w = .ok (.slice none 0 0) w := by kernel_rfl
theorem setCells_ty (b : Nat) : ∀ (vs : List Value) (k : Nat) (w : World), (∃ cur, w.heap[b]? = some (.cells cur 26 (0, 0))) → ∃ cur, (w.setCells b k vs).heap[b]? = some (.cells cur 26 (0, 0))
  | [], _, _, h => h
  | v :: vs, k, w, ⟨cur, h⟩ => setCells_ty b vs (k + 1) (w.setCell ⟨b, k, none⟩ v) ⟨cur.setIfInBounds k v, by simp [World.setCell, Array.getElem?_modify, h]⟩
/-- What it gives: the same row, shorter. -/
def RetCmp (w : World) (b cap : Nat) (D : Array El) (e : Ending) (w' : World) : Prop :=
  ∃ E : Array El, E.toList = cup D D.size ∧ e = .returned (.slice (some ⟨b, 0, none⟩) E.size cap) ∧ Fx b w w' ∧ RowE w' b E

set_option maxRecDepth 1000000 in
set_option maxHeartbeats 4000000 in
theorem compactF (b cap : Nat) (D : Array El) (w : World) (hr : RowE w b D) (hf : FrmE w D) (hcap : D.size ≤ cap) (hcap2 : cap ≤ maxLen) :
    Calls Tryd.prog 19 #[.slice (some ⟨b, 0, none⟩) D.size cap, .func (.func 20) #[] #[]] w (RetCmp w b cap D) := by
  have hcap3 : cap ≤ 9223372036854775807 := by simp only [maxLen] at hcap2; omega
  have HEQ := fun x y W (g : Fx b w W) (hx : x ∈ D.toList) (hy : y ∈ D.toList) => Lib.hid (equalE x y W ⟨(hf x hx).1.fx g hr.blk, (hf x hx).2⟩ ⟨(hf y hy).1.fx g hr.blk, (hf y hy).2⟩)
  have HV : Hid (∀ x ∈ D.toList, ∃ p n c, x.v = .slice p n c) := fun x hx => by
    obtain ⟨p, c, e, _⟩ := (hf x hx).1.rd
    exact ⟨p, _, c, e⟩
  have HR := Lib.hid hr
  have same : ∀ q, (∀ j, j < D.size → keepsN D j = true) → RetCmp w b cap D (.returned (.slice (some ⟨b, 0, none⟩) D.size cap)) (w.drewN q) := fun q hall =>
    ⟨D, by rw [cup_all D _ hall, range_get], rfl, Fx.of_gr ((Gr.refl w).drewN q), hr.gr ((Gr.refl w).drewN q)⟩
  have HS := Lib.hid same
  obtain ⟨n, hn⟩ : ∃ n, D.size = n := ⟨_, rfl⟩
  have HN := Lib.hid hn
  rw [hn] at hcap HS ⊢
  clear hr hf same hn hcap2
  by_cases h2 : n < 2
  · go_enter Tryd.func19, Tryd.ntmps19
    go_wp2
    go_ret
    exact HS.out 0 (fun j hj => by have : j = 0 := by omega
                                   subst this; simp [keepsN])
  go_enter Tryd.func19, Tryd.ntmps19
  go_wp2
  go_loopg [5] n (fun g s wr => ∃ k q : Nat, 1 ≤ k ∧ k ≤ n ∧ n - k ≤ g ∧ s = .int .i64 k ∧ wr = w.drewN q ∧ Hid (∀ j, j < k → keepsN D j = true))
  case atStart => exact ⟨1, 0, Nat.le_refl _, by omega, by omega, rfl, rfl, fun j hj => by have : j = 0 := by omega
                                                                                           subst this; simp [keepsN]⟩
  case round =>
    obtain ⟨k, q, hk1, hk, hg, rfl, rfl, HALL⟩ := hrel
    by_cases hlt : k < n
    · obtain ⟨kp, rfl⟩ : ∃ kp, k = kp + 1 := ⟨k - 1, by omega⟩
      have m1 := at_mem (D := D) (i := kp + 1) (by rw [HN.out]; exact hlt)
      have m0 := at_mem (D := D) (i := kp) (by rw [HN.out]; omega)
      have c1 := HR.out.cell (kp + 1) (by rw [HN.out]; exact hlt)
      have c0 := HR.out.cell kp (by rw [HN.out]; omega)
      have hkeep : keepsN D (kp + 1) = !decide (D[kp + 1]!.n = D[kp]!.n) := by simp [keepsN]
      have HE : Hid (∀ m, Calls Tryd.prog 20 #[D[kp + 1]!.v, D[kp]!.v] ((w.drewN q).drewN m) fun e w' => e = .returned (.bool (decide (D[kp + 1]!.n = D[kp]!.n))) ∧ w' = (w.drewN q).drewN m) := fun m => (HEQ _ _ _ (Fx.of_gr (((Gr.refl w).drewN q).drewN m)) m1 m0).out
      obtain ⟨p1, n1, k1, e1⟩ := HV.out _ m1
      obtain ⟨p0, n0, k0, e0⟩ := HV.out _ m0
      rw [e1, e0] at HE
      rw [e1] at c1
      rw [e0] at c0
      have HK := Lib.hid hkeep
      generalize decide (D[kp + 1]!.n = D[kp]!.n) = same at *
      have hzp : IntKind.i64.wrap (kp : Int) = (kp : Int) := by rw [IntKind.wrap_i64]; omega
      have ez : ((kp : Int) + 1).toNat = kp + 1 := by omega
      have z1 : (kp : Int) + 1 < (n : Int) := by omega
      have z0 : (kp : Int) < (n : Int) := by omega
      have zp : (0 : Int) ≤ (kp : Int) + 1 := by omega
      clear m1 m0 e1 e0 hkeep
      generalize hwq : w.drewN q = wq at *
      have WQ := Lib.hid hwq
      clear hwq
      have c1 : wq.cell? ⟨b, kp + 1, none⟩ = some (.slice p1 n1 k1) := by rw [← WQ.out]; exact c1
      have c0 : wq.cell? ⟨b, kp, none⟩ = some (.slice p0 n0 k0) := by rw [← WQ.out]; exact c0
      cases same
      · go_wp2_with fail
        go_quiet (first | (go_at_call 20; refine Calls.quiet_of_same (HE.out _)))
        go_wp2
        go_roundg (n - (kp + 1 + 1))
        case measure => omega
        case rel =>
          refine ⟨kp + 1 + 1, q + nq, by omega, by omega, Nat.le_refl _, by go_num, by rw [← WQ.out, World.drewN_drewN], fun j hj => ?_⟩
          by_cases e : j = kp + 1
          · subst e; rw [HK.out]; rfl
          · exact HALL.out j (by omega)
      · go_wp2_with fail
        go_quiet (first | (go_at_call 20; refine Calls.quiet_of_same (HE.out _)))
        go_wp2
        have HF0 : Hid (Fx b w (wq.drewN nq)) := Fx.of_gr (by have := (Gr.refl w).drewN (q + nq); rwa [← World.drewN_drewN, WQ.out] at this)
        have HR0 : Hid (RowE (wq.drewN nq) b D) := HR.out.gr (by have := (Gr.refl w).drewN (q + nq); rwa [← World.drewN_drewN, WQ.out] at this)
        clear c1 c0 HE z1 z0 zp ez hzp
        generalize wq.drewN nq = wb at *
        go_loopg [5, 7] n (fun g s5 s7 wr => ∃ (kk k2 : Nat) (dk : Array El), s5 = .int .i64 kk ∧ s7 = .int .i64 k2 ∧ 1 ≤ k2 ∧ kp + 1 + k2 ≤ n ∧ n - (kp + 1 + k2) ≤ g ∧ Hid (Fx b w wr) ∧ Hid (RowE wr b dk) ∧ Hid (CInv D (kp + 1 + k2) kk dk))
        case atStart => exact ⟨kp + 1, 1, D, by go_num, rfl, Nat.le_refl _, by omega, by omega, HF0, HR0, CInv.start (by rw [HN.out]; exact hlt) HALL.out HK.out⟩
        case round =>
          obtain ⟨kk, k2, dk, rfl, rfl, h1, hle, hg2, HF, HRW, HI⟩ := hrel
          have hkk := HI.out.lt
          have hds := HI.out.size
          rw [HN.out] at hds
          by_cases hlt2 : kp + 1 + k2 < n
          · obtain ⟨j2, rfl⟩ : ∃ j2, k2 = j2 + 1 := ⟨k2 - 1, by omega⟩
            have m1 := at_mem (D := D) (i := kp + 1 + (j2 + 1)) (by rw [HN.out]; exact hlt2)
            have m0 := at_mem (D := D) (i := kp + 1 + j2) (by rw [HN.out]; omega)
            have c1 := HRW.out.cell (kp + 1 + (j2 + 1)) (by omega)
            have c0 := HRW.out.cell (kp + 1 + j2) (by omega)
            have ck := HRW.out.cell kk (by omega)
            have fk := HRW.out.free kk
            rw [HI.out.high _ (by omega)] at c1 c0
            have hkeep : keepsN D (kp + 1 + (j2 + 1)) = !decide (D[kp + 1 + (j2 + 1)]!.n = D[kp + 1 + j2]!.n) := by simp [keepsN, ← Nat.add_assoc]
            have HE : Hid (∀ m, Calls Tryd.prog 20 #[D[kp + 1 + (j2 + 1)]!.v, D[kp + 1 + j2]!.v] (wr.drewN m) fun e w' => e = .returned (.bool (decide (D[kp + 1 + (j2 + 1)]!.n = D[kp + 1 + j2]!.n))) ∧ w' = wr.drewN m) := fun m => (HEQ _ _ _ (HF.out.trans (Fx.of_gr ((Gr.refl wr).drewN m))) m1 m0).out
            obtain ⟨p1, n1, k1, e1⟩ := HV.out _ m1
            obtain ⟨p0, n0, k0, e0⟩ := HV.out _ m0
            rw [e1, e0] at HE
            rw [e1] at c1
            rw [e0] at c0
            have HK2 := Lib.hid hkeep
            have HE1 := Lib.hid e1
            generalize decide (D[kp + 1 + (j2 + 1)]!.n = D[kp + 1 + j2]!.n) = same at *
            generalize hold : dk[kk]!.v = old at ck
            have hzp : IntKind.i64.wrap (j2 : Int) = (j2 : Int) := by rw [IntKind.wrap_i64]; omega
            have ez : ((j2 : Int) + 1).toNat = j2 + 1 := by omega
            have zp : (0 : Int) ≤ (j2 : Int) + 1 := by omega
            clear m1 m0 e1 e0 hkeep hold
            cases same
            · go_wp2_with fail
              go_quiet (first | (go_at_call 20; refine Calls.quiet_of_same (HE.out _)))
              go_wp2
              go_roundg (n - (kp + 1 + (j2 + 1 + 1)))
              case measure => omega
              case rel =>
                refine ⟨kk + 1, j2 + 1 + 1, dk.setIfInBounds kk D[kp + 1 + (j2 + 1)]!, by go_num, by go_num, by omega, by omega, Nat.le_refl _, ?_, ?_, HI.out.keep (by rw [HN.out]; exact hlt2) (by rw [HK2.out]; rfl)⟩
                · exact (HF.out.trans (Fx.of_gr ((Gr.refl wr).drewN nq))).set kk _
                · have := (HRW.out.gr ((Gr.refl wr).drewN nq)).put kk (by omega) D[kp + 1 + (j2 + 1)]!
                  rw [HE1.out] at this
                  exact this
            · go_wp2_with fail
              go_quiet (first | (go_at_call 20; refine Calls.quiet_of_same (HE.out _)))
              go_wp2
              go_roundg (n - (kp + 1 + (j2 + 1 + 1)))
              case measure => omega
              case rel => exact ⟨kk, j2 + 1 + 1, dk, rfl, by go_num, by omega, by omega, Nat.le_refl _, HF.out.trans (Fx.of_gr ((Gr.refl wr).drewN nq)), HRW.out.gr ((Gr.refl wr).drewN nq), HI.out.skip (by rw [HK2.out]; rfl)⟩
          · have hend : kp + 1 + k2 = n := by omega
            have hcl : ∀ ty, (Builtin.clear_ #[37] ty #[.slice (some ⟨b, kk, none⟩) (n - kk) (cap - kk)]).run Tryd.prog wr = .ok (.tuple #[]) (wr.setCells b kk (List.replicate (n - kk) (.slice none 0 0))) :=
              fun ty => Lib.run_clear_slice wr _ _ ty _ Tryd.underlying37 zero26 rfl rfl b kk _ _ (by omega) (fun j hj => by rw [HRW.out.cell (kk + j) (by omega)]; rfl) (fun j hj => HRW.out.free _)
            have HFE := Lib.hid (HF.out.sets (List.replicate (n - kk) (.slice none 0 0)) kk)
            have hrow : RowE (wr.setCells b kk (List.replicate (n - kk) (.slice none 0 0))) b (cup D n).toArray := by
              refine ⟨?_, fun i hi => ?_⟩
              · obtain ⟨cur, hb⟩ := HRW.out.blk
                exact setCells_ty b _ kk wr ⟨cur, hb⟩
              · have hlen := HI.out.len
                rw [hend] at hlen
                have hi' : i < kk := by simpa [hlen] using hi
                have hlow := HI.out.low i hi'
                rw [hend] at hlow
                rw [World.cell?_setCells_out b _ kk wr _ (fun _ _ => Or.inl hi'), HRW.out.cell i (by omega)]
                rw [getElem!_pos (cup D n).toArray i hi]
                have : (cup D n).toArray[i] = dk[i]! := by
                  rw [List.getElem?_eq_getElem (by omega)] at hlow
                  simpa using Option.some.inj hlow
                rw [this]
            have HRE := Lib.hid hrow
            have hlen := HI.out.len
            rw [hend] at hlen
            have HLEN := Lib.hid hlen
            clear hrow hlen
            go_wp2
            go_ret
            exact ⟨(cup D n).toArray, by rw [HN.out], by simp [HLEN.out], HFE.out, HRE.out⟩
    · obtain rfl : n = k := by omega
      go_wp2
      go_ret
      exact HS.out q HALL.out
end Go.Proofs.YtkaoibjkebiliaaDoor
