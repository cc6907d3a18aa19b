/- Several texts in one (merge.py): SeR, SeS. -/
import Derived.Test.YtgkccbfepjgjoaaDoorSeMf
import Derived.Test.YtgkccbfepjgjoaaDoorSeMe
import Derived.Deep.RegionHeld3
/- impl.SessionPut: the walk. -/
namespace Go.Proofs.YtgkccbfepjgjoaaDoor
open Go Go.RowKit

/-- What a writer returns. -/
def RetP (w : World) (s : Nat) (big : Bool) (ch : Int) (ys : List Int) (e : Ending) (w' : World) : Prop :=
  e = .returned (.tuple #[]) ∧ Sw w' s big ch ys ∧ Wx s w w'

theorem bytesAt (s : Nat) (big : Bool) (ch : Int) (xs : List Int) (w : World) (h : Sw w s big ch xs) :
    Calls Tryd.prog 46 #[.pointer (some ⟨s, 1, none⟩)] w fun e w' => ∃ u, e = .returned u ∧ Rd w' u xs ∧ Gr w w' := by
  obtain ⟨v, lr, hb, hv⟩ := h
  have hrd : Rd w v xs := by
    rcases hv with ⟨rfl, rfl⟩ | ⟨g, cap, rfl, h1, h2, h3⟩
    · exact Rd.nil w
    · exact h3.rd
  have c1 : w.cell? ⟨s, 1, none⟩ = some v := (blk_cell hb 1).trans rfl
  have c2 : w.cell? ⟨s, 2, none⟩ = some (.int .i64 0) := (blk_cell hb 2).trans rfl
  obtain ⟨u, hu, _, hcut⟩ := cut1 hrd 0 (Nat.zero_le _)
  rw [List.drop_zero] at hu
  have hcut : ∀ w2, (Instr.slice 24 v (some (.int .i64 0)) none none).run Tryd.prog w2 = .ok u w2 := hcut
  obtain ⟨p, c, hve, _⟩ := id hrd
  have HU := Lib.hid hu
  generalize xs.length = N at hve
  subst hve
  clear hb hv hrd hu
  go_enter Tryd.func46, Tryd.ntmps46
  go_wp2
  go_quiet (fail)
  go_wp2
  go_ret
  exact ⟨_, rfl, HU.out.gr ((Gr.refl w).drewN _), (Gr.refl w).drewN _⟩
theorem output (s : Nat) (big : Bool) (ch : Int) (xs : List Int) (w : World) (h : Sw w s big ch xs) :
    Calls Tryd.prog 47 #[.pointer (some ⟨s, 0, none⟩)] w fun e w' => ∃ u, e = .returned u ∧ Rd w' u xs ∧ Gr w w' := by
  have H := Lib.hid (bytesAt s big ch xs w h)
  clear h
  go_enter Tryd.func47, Tryd.ntmps47
  go_wp2_with (first | (go_at_call 46; go_must (refine H.out.mono ?_); rintro e w1 ⟨u, rfl, hu, hg⟩))
  go_ret
  exact ⟨u, rfl, hu, hg⟩

/-- A CLR of few bytes. -/
theorem putClr_short (s : Nat) (big : Bool) (ch : Int) (xs l : List Int) (v : Value) (w : World) (hS : Sw w s big ch xs) (hv : Rd w v l) (ha : Aside s w v) (hl : l.length ≤ 252) (hlim : xs.length ≤ 10000000000) :
    Calls Tryd.prog 41 #[.pointer (some ⟨s, 0, none⟩), v] w (RetP w s big ch (xs ++ ((l.length : Int) :: l))) := by
  obtain ⟨n, hn⟩ : ∃ n, l.length = n := ⟨_, rfl⟩
  have HB := Lib.hid (writeByte_sw s big ch xs n w hS (by omega) (by omega))
  have HW := fun w1 (h1 : Sw w1 s big ch (xs ++ [(n : Int)])) (h2 : Wx s w w1) => Lib.hid (write_sw s big ch (xs ++ [(n : Int)]) l v w1 h1 (hv.wx h2 ha) (ha.wx h2) (by simp; omega))
  obtain ⟨p, c, rfl, _⟩ := id hv
  rw [hn] at hl HW ⊢
  rw [show xs ++ (n : Int) :: l = xs ++ [(n : Int)] ++ l by simp]
  by_cases h0 : n = 0
  · obtain rfl : l = [] := List.eq_nil_of_length_eq_zero (by omega)
    subst h0
    rw [List.append_nil]
    clear hv ha hS HW hn
    go_enter Tryd.func41, Tryd.ntmps41
    go_wp2_with (first | (go_at_call 75; go_must (refine HB.out.mono ?_); rintro e w1 ⟨rfl, h1, h2⟩))
    go_end0
    exact ⟨rfl, h1, h2⟩
  · have e0 : ((n : Int) == 0) = false := beq_eq_false_iff_ne.2 (by omega)
    clear hv ha hS hn
    go_enter Tryd.func41, Tryd.ntmps41
    go_wp2_with (first
      | (go_at_call 75; go_must (refine HB.out.mono ?_); rintro e w1 ⟨rfl, h1, h2⟩)
      | (go_at_call 74; go_must (refine (HW _ h1 h2).out.mono ?_); rintro e w2 ⟨rfl, h3, h4⟩))
    go_end0
    exact ⟨rfl, h3, h2.trans h4⟩

/-- A step of a writer. -/
structure Pt where
  k : Int
  d : List Int
  o : List Int
  n : Int
  u : Int
  sz : Int
  fl : Int
  be : Bool
  co : Bool

/-- The slice value v reads as the steps l. -/
def RdPt (w : World) (v : Value) (l : List Pt) : Prop :=
  ∃ p c, v = .slice p l.length c ∧ l.length ≤ c ∧ c ≤ maxLen ∧ (0 < l.length → ∃ b o, p = some ⟨b, o, none⟩ ∧ ∀ i (hi : i < l.length), ∃ dv ov, Rd w dv l[i].d ∧ Rd w ov l[i].o ∧
    w.cell? ⟨b, o + i * 9, none⟩ = some (.int .i64 l[i].k) ∧ w.cell? ⟨b, o + i * 9 + 1, none⟩ = some dv ∧ w.cell? ⟨b, o + i * 9 + 2, none⟩ = some ov ∧ w.cell? ⟨b, o + i * 9 + 3, none⟩ = some (.int .i64 l[i].n) ∧
    w.cell? ⟨b, o + i * 9 + 4, none⟩ = some (.int .u64 l[i].u) ∧ w.cell? ⟨b, o + i * 9 + 5, none⟩ = some (.int .u8 l[i].sz) ∧ w.cell? ⟨b, o + i * 9 + 6, none⟩ = some (.int .u8 l[i].fl) ∧ w.cell? ⟨b, o + i * 9 + 7, none⟩ = some (.bool l[i].be) ∧ w.cell? ⟨b, o + i * 9 + 8, none⟩ = some (.bool l[i].co))
theorem RdPt.gr {a w : World} {v : Value} {l : List Pt} (h : RdPt a v l) (g : Gr a w) : RdPt w v l := by
  obtain ⟨p, c, rfl, h1, h2, h3⟩ := h
  refine ⟨p, c, rfl, h1, h2, fun hn => ?_⟩
  obtain ⟨b, o, rfl, hc⟩ := h3 hn
  refine ⟨b, o, rfl, fun i hi => ?_⟩
  obtain ⟨dv, ov, r1, r2, k0, k1, k2, k3, k4, k5, k6, k7, k8⟩ := hc i hi
  exact ⟨dv, ov, r1.gr g, r2.gr g, g.cell k0, g.cell k1, g.cell k2, g.cell k3, g.cell k4, g.cell k5, g.cell k6, g.cell k7, g.cell k8⟩

/-- A writer into a buffer of the call's own. -/
def RetW (B b : Nat) (w : World) (ys : List Int) (e : Ending) (w' : World) : Prop := e = .returned (.tuple #[]) ∧ Bf B b ys w' ∧ Below B w w'

/-- What a step writes, in any session. -/
inductive Puts (big : Bool) (ch : Int) : Pt → List Int → Prop
  | bytes {x} : x.k = 0 → Puts big ch x x.d
  | clr {x out} : x.k = 1 → (∀ s xs v w, Sw w s big ch xs → Rd w v x.d → Aside s w v → xs.length ≤ 10000000 → Calls Tryd.prog 41 #[.pointer (some ⟨s, 0, none⟩), v] w (RetP w s big ch (xs ++ out))) → Puts big ch x out
  | int {x out} : x.k = 2 → (∀ s xs w, Sw w s big ch xs → xs.length ≤ 10000000 → Calls Tryd.prog 42 #[.pointer (some ⟨s, 0, none⟩), .iface 2 (.int .i64 x.n), .int .u8 x.sz, .bool x.be, .bool x.co] w (RetP w s big ch (xs ++ out))) → Puts big ch x out
  | uint {x out} : x.k = 3 → (∀ s xs w, Sw w s big ch xs → xs.length ≤ 10000000 → Calls Tryd.prog 43 #[.pointer (some ⟨s, 0, none⟩), .iface 36 (.int .u64 x.u), .int .u8 x.sz, .bool x.be, .bool x.co] w (RetP w s big ch (xs ++ out))) → Puts big ch x out
  | kv {x out} : x.k = 4 → (∀ s xs v u w, Sw w s big ch xs → Rd w v x.d → Aside s w v → Rd w u x.o → Aside s w u → xs.length ≤ 10000000 → Calls Tryd.prog 44 #[.pointer (some ⟨s, 0, none⟩), v, u, .int .u8 x.fl] w (RetP w s big ch (xs ++ out))) → Puts big ch x out
  | fix {x out} : x.k = 5 → (∀ s B b v w, Bf B b [] w → B ≤ w.heap.size → b < w.heap.size → Rd w v x.d → LoV B v → Calls Tryd.prog 45 #[.pointer (some ⟨s, 0, none⟩), .pointer (some ⟨b, 0, none⟩), v] w (RetW B b w out)) → Puts big ch x out

/-- What steps write. -/
inductive PutAll (big : Bool) (ch : Int) : List Pt → List Int → Prop
  | nil : PutAll big ch [] []
  | cons {x l out outs} : Puts big ch x out → PutAll big ch l outs → PutAll big ch (x :: l) (out ++ outs)

theorem Wx.gr0 {s : Nat} {w a w' : World} (h : Wx s a w') (g : Gr w a) (hs : w.heap.size ≤ s) (hr : ∀ k, rowOf s a = some k → s < k) : Gr w w' :=
  ⟨h.os.trans g.os, h.tape.trans g.tape, h.output.trans g.output, Nat.le_trans g.size h.size, fun k hk => by
    rw [h.block k (Nat.lt_of_lt_of_le hk g.size) (by omega) (fun e => by have := hr k e.symm; omega)]
    exact g.block hk⟩
theorem Sw.row_gt {w : World} {s : Nat} {big : Bool} {ch : Int} {xs : List Int} (h : Sw w s big ch xs) : ∀ k, rowOf s w = some k → s < k := by
  obtain ⟨v, lr, hb, hv⟩ := h
  intro k hk
  have e : w.cell? ⟨s, 1, none⟩ = some v := (blk_cell hb 1).trans rfl
  unfold rowOf at hk
  rw [e] at hk
  rcases hv with ⟨rfl, _⟩ | ⟨g, cap, rfl, _, h3, ho⟩
  · cases hk
  · simp [Value.ownBlock] at hk
    subst hk
    exact h3
theorem putAll_drop {big : Bool} {ch : Int} {x : Pt} {l : List Pt} {outs : List Int} (h : PutAll big ch (x :: l) outs) : ∃ o1 o2, Puts big ch x o1 ∧ PutAll big ch l o2 ∧ outs = o1 ++ o2 := by
  cases h with
  | cons h1 h2 => exact ⟨_, _, h1, h2, rfl⟩
end Go.Proofs.YtgkccbfepjgjoaaDoor

/- impl.SessionPut: the loop. -/
namespace Go.Proofs.YtgkccbfepjgjoaaDoor
open Go Go.RowKit

/-- The block of a step that is copied. -/
structure PB (w : World) (H : Nat) (x : Pt) (dv ov : Value) : Prop where
  k0 : w.cell? ⟨H, 0, none⟩ = some (.int .i64 x.k)
  k1 : w.cell? ⟨H, 1, none⟩ = some (dv)
  k2 : w.cell? ⟨H, 2, none⟩ = some (ov)
  k3 : w.cell? ⟨H, 3, none⟩ = some (.int .i64 x.n)
  k4 : w.cell? ⟨H, 4, none⟩ = some (.int .u64 x.u)
  k5 : w.cell? ⟨H, 5, none⟩ = some (.int .u8 x.sz)
  k6 : w.cell? ⟨H, 6, none⟩ = some (.int .u8 x.fl)
  k7 : w.cell? ⟨H, 7, none⟩ = some (.bool x.be)
  k8 : w.cell? ⟨H, 8, none⟩ = some (.bool x.co)
theorem PB.gr {a w : World} {H : Nat} {x : Pt} {dv ov : Value} (h : PB a H x dv ov) (g : Gr a w) : PB w H x dv ov := by
  obtain ⟨k0, k1, k2, k3, k4, k5, k6, k7, k8⟩ := h
  exact ⟨g.cell k0, g.cell k1, g.cell k2, g.cell k3, g.cell k4, g.cell k5, g.cell k6, g.cell k7, g.cell k8⟩
theorem PB.new (w : World) (x : Pt) (dv ov : Value) (T : TypeId) : PB (w.alloc (.cells #[.int .i64 x.k, dv, ov, .int .i64 x.n, .int .u64 x.u, .int .u8 x.sz, .int .u8 x.fl, .bool x.be, .bool x.co] T)) w.heap.size x dv ov := by
  have h := heap_alloc_new w (.cells #[.int .i64 x.k, dv, ov, .int .i64 x.n, .int .u64 x.u, .int .u8 x.sz, .int .u8 x.fl, .bool x.be, .bool x.co] T)
  exact ⟨(blk_cell h 0).trans rfl, (blk_cell h 1).trans rfl, (blk_cell h 2).trans rfl, (blk_cell h 3).trans rfl, (blk_cell h 4).trans rfl, (blk_cell h 5).trans rfl, (blk_cell h 6).trans rfl, (blk_cell h 7).trans rfl, (blk_cell h 8).trans rfl⟩

/-- What a call that returns new bytes ends in. -/
def RetB (w0 : World) (xs : List Int) (e : Ending) (w' : World) : Prop := ∃ v, e = .returned v ∧ Own w0.heap.size w' v xs ∧ Gr w0 w'

set_option maxRecDepth 100000 in
set_option maxHeartbeats 4000000 in
theorem sessionPut (vl : Value) (steps : List Pt) (big : Bool) (ch : Int) (outs : List Int) (w : World) (hst : RdPt w vl steps) (hsl : steps.length ≤ 1000) (hdl : ∀ x ∈ steps, x.d.length ≤ 10000 ∧ x.o.length ≤ 10000)
    (hp : PutAll big ch steps outs) (hol : outs.length ≤ 10000000) :
    Calls Tryd.prog 15 #[vl, .bool big, .int .i64 ch] w (RetB w outs) := by
  obtain ⟨pl, cl, rfl, hcl, hcm, hcells⟩ := id hst
  obtain ⟨n, hn⟩ : ∃ n, steps.length = n := ⟨_, rfl⟩
  rw [hn] at hsl hcl ⊢
  have hcm2 : cl ≤ 9223372036854775807 := by simp only [maxLen] at hcm; omega
  have HNN := Lib.hid hn
  have HST := Lib.hid hst
  have HPP := Lib.hid hp
  have HDL := Lib.hid hdl
  have HOL := Lib.hid hol
  clear hn hst hp hcells hcm hdl hol
  go_enter Tryd.func15, Tryd.ntmps15
  go_wp2_with (first
    | (go_at_call 37; go_must (refine (newSession _ _ _ _).mono ?_); rintro e w2 ⟨rfl, rfl⟩; have k5 := (blk_cell (heap_alloc_new w (.cells (snCells (.slice none 0 0) 0 false 64) 81)) 5).trans rfl; have f5 := blk_free (heap_alloc_new w (.cells (snCells (.slice none 0 0) 0 false 64) 81)) 5; have k6 := (blk_cell (heap_alloc_new w (.cells (snCells (.slice none 0 0) 0 false 64) 81)) 6).trans rfl; have f6 := blk_free (heap_alloc_new w (.cells (snCells (.slice none 0 0) 0 false 64) 81)) 6))
  have hcs : ((snCells (.slice none 0 0) 0 false 64).setIfInBounds 5 (.bool big)).setIfInBounds 6 (.int .i64 ch) = swCells (.slice none 0 0) 0 big ch := by simp [snCells, swCells]
  rw [hcs]
  have hgW : Gr w (w.alloc (.cells (swCells (.slice none 0 0) 0 big ch) 81)) := (Gr.refl w).alloc _
  have hSw : Sw (w.alloc (.cells (swCells (.slice none 0 0) 0 big ch) 81)) w.heap.size big ch [] := ⟨_, 0, heap_alloc_new w _, .inl ⟨rfl, rfl⟩⟩
  have hws : w.heap.size ≤ w.heap.size := Nat.le_refl _
  clear hcs k5 f5 k6 f6
  generalize w.alloc (.cells (swCells (.slice none 0 0) 0 big ch) 81) = W at *
  obtain ⟨s, hs0⟩ : ∃ s, w.heap.size = s := ⟨_, rfl⟩
  rw [hs0]
  rw [hs0] at hSw
  have hws : w.heap.size ≤ s := Nat.le_of_eq hs0
  have HSW := Lib.hid hSw
  have HGW := Lib.hid hgW
  clear hs0 hSw hgW
  go_loopw [24] (fun i wr => ∃ k : Nat, i = .int .i64 k ∧ k ≤ n ∧ ∃ acc o2, Sw wr s big ch acc ∧ PutAll big ch (steps.drop k) o2 ∧ outs = acc ++ o2 ∧ Gr w wr) (fun i _ => n - (intOf i).toNat)
  case atStart => exact ⟨0, rfl, Nat.zero_le _, [], outs, HSW.out, HPP.out, rfl, HGW.out⟩
  case round =>
    obtain ⟨k, rfl, hk, acc, oo, hS, hput, hout, hgr⟩ := hrel
    by_cases hlt : k < n
    · have hkl : k < steps.length := by rw [HNN.out]; exact hlt
      have hdrop : steps.drop k = steps[k] :: steps.drop (k + 1) := List.drop_eq_getElem_cons hkl
      rw [hdrop] at hput
      obtain ⟨pl2, cl2, hvl, _, _, hcells⟩ := HST.out.gr hgr
      injection hvl with hv1 hv2 hv3
      obtain ⟨b, lo, hpl, hc⟩ := hcells (by rw [HNN.out]; omega)
      rw [hpl] at hv1
      subst hv1
      obtain ⟨dv, ov, r1, r2, x0, x1, x2, x3, x4, x5, x6, x7, x8⟩ := hc k hkl
      have hlens := HDL.out steps[k] (List.getElem_mem hkl)
      have HX := Lib.hid hdrop
      generalize steps[k] = x at *
      clear hcells hc hv2 hv3 hpl hdrop
      obtain ⟨hd1, hd2⟩ := hlens
      obtain ⟨out1, o2, hP, hrest, he⟩ := putAll_drop hput
      obtain ⟨pd, cd, rfl, _⟩ := id r1
      obtain ⟨po, co, rfl, _⟩ := id r2
      have hsl2 := hS.lt
      have HOUT := Lib.hid hout
      have HREST := Lib.hid hrest
      have HE := Lib.hid he
      have HGR := Lib.hid hgr
      have HR1 := Lib.hid r1
      have HR2 := Lib.hid r2
      have HPS := Lib.hid hP
      have HS := Lib.hid hS
      have KB := Lib.hid (PB.new wr x (.slice pd x.d.length cd) (.slice po x.o.length co) 38)
      clear hS hput hout hgr hrest he r1 r2 hP
      have tok1 : True := trivial
      go_wp2_with fail
      have hG0 : Gr wr (wr.alloc (.cells #[.int .i64 x.k, .slice pd x.d.length cd, .slice po x.o.length co, .int .i64 x.n, .int .u64 x.u, .int .u8 x.sz, .int .u8 x.fl, .bool x.be, .bool x.co] 38)) := (Gr.refl wr).alloc _
      have hH : wr.heap.size < (wr.alloc (.cells #[.int .i64 x.k, .slice pd x.d.length cd, .slice po x.o.length co, .int .i64 x.n, .int .u64 x.u, .int .u8 x.sz, .int .u8 x.fl, .bool x.be, .bool x.co] 38)).heap.size := by simp
      have HG0 := Lib.hid hG0
      clear hG0
      generalize wr.alloc (.cells #[.int .i64 x.k, .slice pd x.d.length cd, .slice po x.o.length co, .int .i64 x.n, .int .u64 x.u, .int .u8 x.sz, .int .u8 x.fl, .bool x.be, .bool x.co] 38) = X at *
      go_region_held3 (fun w' => w'.cell? ⟨wr.heap.size, 1, none⟩ = some (.slice pd x.d.length cd) ∧ w'.cell? ⟨wr.heap.size, 2, none⟩ = some (.slice po x.o.length co)) (first | (with_reducible exact ⟨(KB.out.gr hG).k1, (KB.out.gr hG).k2⟩) | (with_reducible exact ⟨(KB.out.gr (Gr.refl X).drew).k1, (KB.out.gr (Gr.refl X).drew).k2⟩))
        ((first
          | (go_at_call 16; have _t := tok1; go_must (refine (clone (.slice pd x.d.length cd) x.d _ (HR1.out.gr (HG0.out.trans (Gr.refl X).drew)) (by omega)).mono ?_); rintro e w2 ⟨u2, rfl, ho2, hg2⟩; clear tok1 _t; have hG : Gr X w2 := Gr.trans (Gr.refl X).drew hg2)
          | (go_at_call 16; go_must (refine (clone (.slice po x.o.length co) x.o w2 (HR2.out.gr (HG0.out.trans hG)) (by omega)).mono ?_); rintro e w3 ⟨u3, rfl, ho3, hg3⟩; have hG := hG.trans hg3)))
      obtain ⟨q0, q1, q2, q3, q4, q5, q6, q7, q8⟩ := KB.out.gr hG
      have hwx := HG0.out.trans hG
      have hS := HS.out
      have hS3 := hS.gr hwx
      have hrl := hS.row_lt
      have hz2 := hg2.size
      have hz3 : X.heap.size ≤ w2.heap.size := hz2
      have hz4 : X.heap.size ≤ X.drew.heap.size := Nat.le_refl _
      have hrow : ∀ k, rowOf s w3 = some k → k < wr.heap.size := fun k hk => by rw [rowOf_heap (hwx.block hsl2)] at hk; exact hrl k hk
      have hz5 : w2.heap.size ≤ w2.heap.size := Nat.le_refl _
      have HA2 := Lib.hid (((ho2.gr hg3).mono (show wr.heap.size + 1 ≤ _ from Nat.le_trans hH hz4)).aside (Nat.lt_succ_of_lt hsl2) (fun k hk => Nat.lt_succ_of_lt (hrow k hk)))
      have HA3 := Lib.hid ((ho3.mono (show wr.heap.size + 1 ≤ _ from Nat.le_trans hH (Nat.le_trans hz3 (Nat.le_refl _)))).aside (Nat.lt_succ_of_lt hsl2) (fun k hk => Nat.lt_succ_of_lt (hrow k hk)))
      have HD2 := Lib.hid (ho2.gr hg3).rd
      have HD3 := Lib.hid ho3.rd
      have HS3 := Lib.hid hS3
      have HWX := Lib.hid hwx
      have HROW := Lib.hid (fun k (hk : rowOf s w3 = some k) => hS.row_gt k (by rw [rowOf_heap (hwx.block hsl2)] at hk; exact hk))
      have hacc : acc.length + out1.length ≤ 10000000 := by have := HOL.out; rw [HOUT.out, HE.out] at this; simp only [List.length_append] at this; omega
      clear ho2 ho3 hg2 hg3 hG hS3 hwx hS hrl hrow HS HG0 KB HR1 HR2 hz2 hz3 hz4
      have hP := HPS.out
      cases hP with
      | bytes hk0 =>
        rw [hk0] at q0
        go_wp2_with (first
          | (go_at_call 40; go_must (refine (putBytes s big ch acc x.d u2 w3 HS3.out HD2.out HA2.out (by omega)).mono ?_); rintro e w4 ⟨rfl, hs4, hx4⟩))
        have hgw : Gr w w4 := hx4.gr0 (HGR.out.trans HWX.out) hws HROW.out
        go_roundw
        case rel => exact ⟨k + 1, by go_num, by omega, acc ++ x.d, o2, hs4, HREST.out, by rw [HOUT.out, HE.out]; simp, hgw⟩
        case measure => simp [intOf]; omega
      | clr hk0 hcall =>
        rw [hk0] at q0
        have HCC := Lib.hid hcall
        clear hcall
        go_wp2_with (first
          | (go_at_call 41; go_must (refine (HCC.out s acc u2 w3 HS3.out HD2.out HA2.out (by omega)).mono ?_); rintro e w4 ⟨rfl, hs4, hx4⟩))
        have hgw : Gr w w4 := hx4.gr0 (HGR.out.trans HWX.out) hws HROW.out
        go_roundw
        case rel => exact ⟨k + 1, by go_num, by omega, acc ++ out1, o2, hs4, HREST.out, by rw [HOUT.out, HE.out]; simp, hgw⟩
        case measure => simp [intOf]; omega
      | int hk0 hcall =>
        rw [hk0] at q0
        have HCC := Lib.hid hcall
        clear hcall
        go_wp2_with (first
          | (go_at_call 42; go_must (refine (HCC.out s acc w3 HS3.out (by omega)).mono ?_); rintro e w4 ⟨rfl, hs4, hx4⟩))
        have hgw : Gr w w4 := hx4.gr0 (HGR.out.trans HWX.out) hws HROW.out
        go_roundw
        case rel => exact ⟨k + 1, by go_num, by omega, acc ++ out1, o2, hs4, HREST.out, by rw [HOUT.out, HE.out]; simp, hgw⟩
        case measure => simp [intOf]; omega
      | uint hk0 hcall =>
        rw [hk0] at q0
        have HCC := Lib.hid hcall
        clear hcall
        go_wp2_with (first
          | (go_at_call 43; go_must (refine (HCC.out s acc w3 HS3.out (by omega)).mono ?_); rintro e w4 ⟨rfl, hs4, hx4⟩))
        have hgw : Gr w w4 := hx4.gr0 (HGR.out.trans HWX.out) hws HROW.out
        go_roundw
        case rel => exact ⟨k + 1, by go_num, by omega, acc ++ out1, o2, hs4, HREST.out, by rw [HOUT.out, HE.out]; simp, hgw⟩
        case measure => simp [intOf]; omega
      | kv hk0 hcall =>
        rw [hk0] at q0
        have HCC := Lib.hid hcall
        clear hcall
        go_wp2_with (first
          | (go_at_call 44; go_must (refine (HCC.out s acc u2 u3 w3 HS3.out HD2.out HA2.out HD3.out HA3.out (by omega)).mono ?_); rintro e w4 ⟨rfl, hs4, hx4⟩))
        have hgw : Gr w w4 := hx4.gr0 (HGR.out.trans HWX.out) hws HROW.out
        go_roundw
        case rel => exact ⟨k + 1, by go_num, by omega, acc ++ out1, o2, hs4, HREST.out, by rw [HOUT.out, HE.out]; simp, hgw⟩
        case measure => simp [intOf]; omega
      | fix hk0 hcall =>
        rw [hk0] at q0
        have HCC := Lib.hid hcall
        clear hcall
        have hlt3 := HS3.out.lt
        have HLO := Lib.hid (show LoV w3.heap.size u2 from fun a n c e => (HA2.out a n c e).2.2)
        have HRL := Lib.hid HS3.out.row_lt
        go_wp2_with (first
          | (go_at_call 45; go_must (refine (HCC.out s w3.heap.size w3.heap.size u2 _ (Bf.new w3) (by simp) (by simp) (HD2.out.gr ((Gr.refl _).alloc _)) HLO.out).mono ?_); rintro e w4 ⟨rfl, hb4, hg4⟩; have hG4 : Gr w3 w4 := Below.trans ((Gr.refl w3).alloc _) hg4)
          | (go_at_call 46; go_must (refine (bufBytes hb4).mono ?_); rintro e w5 ⟨u5, rfl, ho5, hg5⟩; have hG5 := hG4.trans hg5; have HRW5 := Lib.hid (rowOf_heap (s := s) (hG5.block hlt3)); have HO5 := Lib.hid ho5; clear ho5)
          | (go_at_call 40; go_must (refine (putBytes s big ch acc out1 u5 w5 (HS3.out.gr hG5) HO5.out.rd (HO5.out.aside hlt3 (fun k hk => by rw [HRW5.out] at hk; exact HRL.out k hk)) (by omega)).mono ?_); rintro e w6 ⟨rfl, hs6, hx6⟩))
        have hgw : Gr w w6 := hx6.gr0 ((HGR.out.trans HWX.out).trans hG5) hws (fun k hk => by rw [HRW5.out] at hk; exact HROW.out k hk)
        go_roundw
        case rel => exact ⟨k + 1, by go_num, by omega, acc ++ out1, o2, hs6, HREST.out, by rw [HOUT.out, HE.out]; simp, hgw⟩
        case measure => simp [intOf]; omega
    · obtain rfl : n = k := by omega
      rw [List.drop_of_length_le (by rw [HNN.out]; exact Nat.le_refl _)] at hput
      cases hput with
      | nil =>
        rw [List.append_nil] at hout
        subst hout
        have hlen := HOL.out
        have HS := Lib.hid hS
        have HGR := Lib.hid hgr
        clear hS hgr
        go_wp2_with (first
          | (go_at_call 47; go_must (refine (output s big ch _ _ HS.out).mono ?_); rintro e w4 ⟨u4, rfl, hu4, hg4⟩)
          | (go_at_call 16; go_must (refine (clone u4 _ w4 hu4 (by omega)).mono ?_); rintro e w5 ⟨u5, rfl, ho5, hg5⟩))
        go_ret
        exact ⟨_, rfl, ho5.mono (HGR.out.trans hg4).size, (HGR.out.trans hg4).trans hg5⟩
end Go.Proofs.YtgkccbfepjgjoaaDoor
