/- impl.SessionGet: the walk. -/
import Derived.Test.YtgkccbfepjgjoaaDoorSeN
import Derived.LoopTactic
namespace Go.Proofs.YtgkccbfepjgjoaaDoor
open Go Go.RowKit

/-- A step of a reader does this, in any session. -/
def Does (big : Bool) (x : St) (r : List Int) (o : Option (G × List Int)) : Prop :=
  ∀ (s : Nat) (ch : Int) (E : Value) (w : World), Ss w s big ch E r → Calls Tryd.prog 38 #[.pointer (some ⟨s, 0, none⟩), x.val] w (RetG w s big ch E o)
def G.no : G := ⟨false, [], [], 0, ⟨#[]⟩⟩

/-- What steps give, up to the first error, and what is left. -/
inductive Runs (big : Bool) : List St → List Int → List G → Option (List Int) → Prop
  | nil (r) : Runs big [] r [] (some r)
  | torn {x l r} : Does big x r none → Runs big (x :: l) r [G.no] none
  | cons {x l r g r1 gs o} : Does big x r (some (g, r1)) → g.ok = true → Runs big l r1 gs o → Runs big (x :: l) r (g :: gs) o

def RetS (w : World) (gs : List G) (o : Option (List Int)) (e : Ending) (w' : World) : Prop :=
  ∃ gv lv left, e = .returned (.tuple #[gv, lv]) ∧ OwnG w.heap.size w' gv gs ∧ Own w.heap.size w' lv left ∧ (∀ r, o = some r → left = r) ∧ Gr w w'

theorem OwnG.mono {B B' : Nat} {w : World} {v : Value} {gs : List G} (h : OwnG B w v gs) (hB : B' ≤ B) : OwnG B' w v gs := by
  obtain ⟨ps, hl, ho, hi⟩ := h
  refine ⟨ps, hl, ⟨ho.1, ?_⟩, fun i g p h1 h2 => ⟨(hi i g p h1 h2).1.mono hB, (hi i g p h1 h2).2.mono hB⟩⟩
  rcases ho.2 with h2 | ⟨b, cap, cur, hv, hg, r⟩
  · exact Or.inl h2
  · exact Or.inr ⟨b, cap, cur, hv, Nat.le_trans hB hg, r⟩
theorem OwnG.lt {B : Nat} {w : World} {v : Value} {gs : List G} (h : OwnG B w v gs) : ∀ k, v.ownBlock = some k → k < w.heap.size := fun k hk => by
  obtain ⟨_, c, hc⟩ := h.row k hk
  exact lt_of_some hc

/-- The loop. -/
structure GInv (w : World) (B s n : Nat) (big : Bool) (E : Value) (steps : List St) (gs : List G) (o : Option (List Int)) (k : Nat) (ov : Value) (wr : World) : Prop where
  hk : k ≤ n
  main : ∃ gsd rc gs', OwnG B wr ov gsd ∧ Ss wr s big 64 E rc ∧ Runs big (steps.drop k) rc gs' o ∧ gs = gsd ++ gs' ∧ gsd.length = k
  gr : Gr w wr
  sz : B ≤ wr.heap.size

theorem OwnG.shape {B : Nat} {w : World} {v : Value} {gs : List G} (h : OwnG B w v gs) : ∃ p n c, v = .slice p n c := by
  obtain ⟨ps, _, ho, _⟩ := h
  rcases ho.2 with ⟨rfl, _⟩ | ⟨_, _, _, rfl, _⟩
  · exact ⟨_, _, _, rfl⟩
  · exact ⟨_, _, _, rfl⟩
theorem Gr.trans2 {B : Nat} {a b c : World} (h : Gr a b) (k : Below B b c) (hB : a.heap.size ≤ B) : Gr a c := Below.trans h (Below.mono k hB)
theorem box_kept {B : Nat} {w2 w' w3 : World} {ov : Value} {gsd : List G} {cs : Array Value} {T : TypeId} {fr : Nat × Nat} (hO : OwnG B w2 ov gsd) (hb : w'.heap[w2.heap.size]? = some (.cells cs T fr))
    (h3 : ∀ row, w'.heap[row]? ≠ none → some row ≠ ov.ownBlock → w3.heap[row]? = w'.heap[row]?) : w3.heap[w2.heap.size]? = some (.cells cs T fr) := by
  rw [h3 _ (by rw [hb]; simp) (fun e => by have := hO.lt _ e.symm; omega)]
  exact hb

set_option maxRecDepth 100000 in
set_option maxHeartbeats 2000000 in
theorem sessionGet (vin vl : Value) (inp : List Int) (steps : List St) (big : Bool) (gs : List G) (o : Option (List Int)) (E : Value) (w : World) (hE : EndE w E) (hin : Rd w vin inp) (hil : inp.length ≤ 1000000000)
    (hst : RdSt w vl steps) (hsl : steps.length ≤ 100000) (hr : Runs big steps inp gs o) :
    Calls Tryd.prog 13 #[vin, vl, .bool big] w (RetS w gs o) := by
  obtain ⟨pl, cl, rfl, hcl, hcm, hcells⟩ := id hst
  obtain ⟨n, hn⟩ : ∃ n, steps.length = n := ⟨_, rfl⟩
  rw [hn] at hsl hcl ⊢
  have hcm2 : cl ≤ 9223372036854775807 := by simp only [maxLen] at hcm; omega
  have HCL := fun w (h : Rd w vin inp) => Lib.hid (clone vin inp w h (by omega))
  have HIN := Lib.hid hin
  have HEE := Lib.hid hE
  have HNN := Lib.hid hn
  have HST := Lib.hid hst
  have HRR := Lib.hid hr
  have hEl : 3 < w.heap.size := World.block_lt_of_cell? w _ hE.2
  clear hin hE hn hst hr hcells hcm
  go_enter Tryd.func13, Tryd.ntmps13
  go_wp2_with (first
    | (go_at_call 16; go_must (refine (HCL _ HIN.out).out.mono ?_); rintro e w1 ⟨u1, rfl, ho1, hg1⟩; obtain ⟨p1, c1, rfl, _⟩ := id ho1.rd)
    | (go_at_call 37; go_must (refine (newSession _ _ _ _).mono ?_); rintro e w2 ⟨rfl, rfl⟩; have k5 := (blk_cell (heap_alloc_new w1 (.cells (snCells (.slice p1 inp.length c1) 0 false 64) 81)) 5).trans rfl; have f5 := blk_free (heap_alloc_new w1 (.cells (snCells (.slice p1 inp.length c1) 0 false 64) 81)) 5))
  have hcs : (snCells (.slice p1 inp.length c1) 0 false 64).setIfInBounds 5 (.bool big) = snCells (.slice p1 inp.length c1) 0 big 64 := by simp [snCells]
  rw [hcs]
  have hgW : Gr w (w1.alloc (.cells (snCells (.slice p1 inp.length c1) 0 big 64) 81)) := hg1.alloc _
  have hSs : Ss (w1.alloc (.cells (snCells (.slice p1 inp.length c1) 0 big 64) 81)) w1.heap.size big 64 E inp := by
    refine ⟨.slice p1 inp.length c1, inp, 0, ⟨heap_alloc_new w1 _, ho1.rd.gr ((Gr.refl w1).alloc _), ?_, Nat.zero_le _, by omega⟩, rfl, HEE.out.gr hgW, hg1.lt hEl⟩
    intro a m c e
    obtain ⟨⟨_, h2⟩, _⟩ := ho1
    rcases h2 with ⟨h3, _⟩ | ⟨g, cap, cur, hv, _, hh, _⟩
    · rw [h3] at e; cases e
    · rw [hv] at e
      injection e with e
      injection e with e
      subst e
      exact lt_of_some hh
  have hsB : w1.heap.size < (w1.alloc (.cells (snCells (.slice p1 inp.length c1) 0 big 64) 81)).heap.size := by simp
  have hws : w.heap.size ≤ w1.heap.size := hg1.size
  clear hcs ho1 hg1 k5 f5
  generalize w1.alloc (.cells (snCells (.slice p1 inp.length c1) 0 big 64) 81) = W at *
  generalize w1.heap.size = s at *
  obtain ⟨B, hB⟩ : ∃ B, W.heap.size = B := ⟨_, rfl⟩
  rw [hB] at hsB
  have HS := Lib.hid hSs
  have HG := Lib.hid hgW
  have HBB := Lib.hid hB
  clear hSs hgW hB
  go_loopw [9, 22] (fun ov i wr => ∃ k : Nat, i = .int .i64 k ∧ GInv w B s n big E steps gs o k ov wr) (fun _ i _ => n - (intOf i).toNat)
  case atStart => exact ⟨0, rfl, Nat.zero_le _, ⟨[], inp, gs, OwnG.nil _ _, HS.out, HRR.out, rfl, rfl⟩, HG.out, Nat.le_of_eq HBB.out.symm⟩
  case round =>
    obtain ⟨k, rfl, hk, ⟨gsd, rc, gs', hO, hs, hruns, hgs, hgl⟩, hgr, hsz⟩ := hrel
    by_cases hlt : k < n
    · have hkl : k < steps.length := by rw [HNN.out]; exact hlt
      have hdrop : steps.drop k = steps[k] :: steps.drop (k + 1) := List.drop_eq_getElem_cons hkl
      rw [hdrop] at hruns
      obtain ⟨pl2, cl2, hvl, _, _, hcells⟩ := HST.out.gr hgr
      injection hvl with hv1 hv2 hv3
      obtain ⟨b, lo, hpl, hc⟩ := hcells (by rw [HNN.out]; omega)
      rw [hpl] at hv1
      subst hv1
      obtain ⟨x0, x1, x2, x3⟩ := hc k hkl
      have HX := Lib.hid hdrop
      generalize steps[k] = x at *
      clear hcells hc hv2 hv3 hpl hdrop
      cases hruns with
      | torn hd =>
        have HD := Lib.hid (hd s 64 E (wr.alloc (.cells #[.int .i64 x.k, .int .i64 x.sz, .bool x.be, .bool x.co] 28)) (hs.gr ((Gr.refl wr).alloc _)))
        have HO := Lib.hid hO
        have HGS := Lib.hid hgs
        have HGR := Lib.hid hgr
        clear hd hs hO hgs hgr
        unfold St.val at HD
        go_wp2_with (first
          | (go_at_call 38; go_must (refine HD.out.mono ?_); rintro e w2 ⟨rfl, ⟨r1, hs1⟩, hf1⟩; unfold zeroG; have hl1 := hs1.len)
          | (at_builtin; go_must (refine wpList_append_got rfl _ _ rfl rfl ((((HO.out.gr ((Gr.refl wr).alloc _)).fx hf1 hsB).gr ((Gr.refl w2).alloc _)).gr ((Gr.refl _).alloc _)) G.no (.slice none 0 0) (.slice none 0 0) (w2.heap.size + 1) 1 rfl (fun j u hu => (blk_cell (heap_new_at (w2.alloc _) _ (by simp)) j).trans (by simpa [G.cs, G.no] using hu)) (Own.nil _ _) (Own.nil _ _) (by rw [hgl]; omega) (by have := hf1.size; simp at this ⊢; omega) ?_); intro v3 w3 hO3 hbel h3; have hb3 := box_kept ((HO.out.gr ((Gr.refl wr).alloc _)).fx hf1 hsB) (((Gr.refl _).alloc _).heap (heap_alloc_new w2 _)) h3; have kb := (blk_cell hb3 0).trans rfl; obtain ⟨pv3, nv3, cv3, rfl⟩ := hO3.shape)
          | (go_at_call 39; go_must (refine (rest s big 64 E r1 w3 (((hs1.gr ((Gr.refl w2).alloc _)).gr ((Gr.refl _).alloc _)).below hbel hsB)).mono ?_); rintro e w4 ⟨u4, rfl, hu4, hg4⟩)
          | (go_at_call 16; go_must (refine (clone u4 r1 w4 hu4 (by omega)).mono ?_); rintro e w5 ⟨u5, rfl, ho5, hg5⟩))
        go_ret2
        have hg2 : Gr w w2 := hf1.gr (HGR.out.alloc _) hws
        have hg3 : Gr w w3 := Gr.trans2 ((hg2.alloc _).alloc _) hbel (by omega)
        exact ⟨_, u5, r1, rfl, by rw [HGS.out]; exact ((hO3.gr hg4).gr hg5).mono (by omega), ho5.mono (hg3.trans hg4).size, (fun r e => by cases e), (hg3.trans hg4).trans hg5⟩
      | @cons _ _ _ g r1 gs2 _ hd hok hrest =>
        have HD := Lib.hid (hd s 64 E (wr.alloc (.cells #[.int .i64 x.k, .int .i64 x.sz, .bool x.be, .bool x.co] 28)) (hs.gr ((Gr.refl wr).alloc _)))
        have HO := Lib.hid hO
        have HGS := Lib.hid hgs
        have HGR := Lib.hid hgr
        have HOK := Lib.hid hok
        have HREST := Lib.hid hrest
        clear hd hs hO hgs hgr hok hrest
        unfold St.val at HD
        go_wp2_with (first
          | (go_at_call 38; go_must (refine HD.out.mono ?_); rintro e w2 ⟨dv, ov, rfl, hdv, hov, hs1, hf1⟩; have hzz := hf1.size; have hd3 := hdv.mono (B' := B) (by simp; omega); have ho3 := hov.mono (B' := B) (by simp; omega); clear hdv hov; obtain ⟨pd, cd, rfl, _⟩ := id hd3.rd; obtain ⟨po, co, rfl, _⟩ := id ho3.rd)
          | (at_builtin; go_must (refine wpList_append_got rfl _ _ rfl rfl ((((HO.out.gr ((Gr.refl wr).alloc _)).fx hf1 hsB).gr ((Gr.refl w2).alloc _)).gr ((Gr.refl _).alloc _)) g (.slice pd g.d.length cd) (.slice po g.o.length co) (w2.heap.size + 1) 1 rfl (fun j u hu => (blk_cell (heap_new_at (w2.alloc _) _ (by simp)) j).trans (by simpa [G.cs, HOK.out] using hu)) ((hd3.gr ((Gr.refl w2).alloc _)).gr ((Gr.refl _).alloc _)) ((ho3.gr ((Gr.refl w2).alloc _)).gr ((Gr.refl _).alloc _)) (by rw [hgl]; omega) (by have := hf1.size; simp at this ⊢; omega) ?_); intro v3 w3 hO3 hbel h3; have hb3 := box_kept ((HO.out.gr ((Gr.refl wr).alloc _)).fx hf1 hsB) (((Gr.refl _).alloc _).heap (heap_alloc_new w2 _)) h3; have kb := (blk_cell hb3 0).trans rfl; obtain ⟨pv3, nv3, cv3, rfl⟩ := hO3.shape))
        have hg2 : Gr w w2 := hf1.gr (HGR.out.alloc _) hws
        have hg3 : Gr w w3 := Gr.trans2 ((hg2.alloc _).alloc _) hbel (by omega)
        have hz3 := hbel.size
        go_roundw
        case rel => exact ⟨k + 1, by go_num, by omega, ⟨gsd ++ [g], r1, gs2, hO3, ((hs1.gr ((Gr.refl w2).alloc _)).gr ((Gr.refl _).alloc _)).below hbel hsB, HREST.out, by rw [HGS.out]; simp, by simp [hgl]⟩, hg3, by simp at hz3 hzz; omega⟩
        case measure => simp [intOf]; omega
    · obtain rfl : n = k := by omega
      rw [List.drop_of_length_le (by rw [HNN.out]; exact Nat.le_refl _)] at hruns
      cases hruns with
      | nil _ =>
        rw [List.append_nil] at hgs
        subst hgs
        have hl1 := hs.len
        obtain ⟨pv3, nv3, cv3, rfl⟩ := hO.shape
        go_wp2_with (first
          | (go_at_call 39; go_must (refine (rest s big 64 E rc wr hs).mono ?_); rintro e w4 ⟨u4, rfl, hu4, hg4⟩)
          | (go_at_call 16; go_must (refine (clone u4 rc w4 hu4 (by omega)).mono ?_); rintro e w5 ⟨u5, rfl, ho5, hg5⟩))
        go_ret2
        exact ⟨_, u5, rc, rfl, ((hO.gr hg4).gr hg5).mono (by omega), ho5.mono (hgr.trans hg4).size, (fun r e => by injection e), (hgr.trans hg4).trans hg5⟩
end Go.Proofs.YtgkccbfepjgjoaaDoor
