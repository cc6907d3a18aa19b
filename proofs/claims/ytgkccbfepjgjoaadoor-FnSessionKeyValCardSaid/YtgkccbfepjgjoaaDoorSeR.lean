/- impl.SessionPut: the walk. -/
import Derived.Test.YtgkccbfepjgjoaaDoorSeQ
import Derived.Test.YtgkccbfepjgjoaaDoorSeN
import Derived.Deep.RegionHeld3
namespace Go.Proofs.YtgkccbfepjgjoaaDoor
open Go Go.RowKit

/-- What a writer returns. -/
def RetP (w : World) (s : Nat) (big : Bool) (ch : Int) (ys : List Int) (e : Ending) (w' : World) : Prop :=
  e = .returned (.tuple #[]) ∧ Sw w' s big ch ys ∧ Wx s w w'

theorem bytesAt (s : Nat) (big : Bool) (ch : Int) (xs : List Int) (w : World) (h : Sw w s big ch xs) :
    Calls Tryd.prog 46 #[.pointer (some ⟨s, 1, none⟩)] w fun e w' => ∃ u, e = .returned u ∧ Rd w' u xs ∧ Gr w w' := by
  obtain ⟨v, lr, hb, hv⟩ := h
  have hrd : Rd w v xs := by
    rcases hv with ⟨rfl, rfl⟩ | ⟨g, cap, rfl, h1, h2, h3⟩
    · exact Rd.nil w
    · exact h3.rd
  have c1 : w.cell? ⟨s, 1, none⟩ = some v := (blk_cell hb 1).trans rfl
  have c2 : w.cell? ⟨s, 2, none⟩ = some (.int .i64 0) := (blk_cell hb 2).trans rfl
  obtain ⟨u, hu, _, hcut⟩ := cut1 hrd 0 (Nat.zero_le _)
  rw [List.drop_zero] at hu
  have hcut : ∀ w2, (Instr.slice 24 v (some (.int .i64 0)) none none).run Tryd.prog w2 = .ok u w2 := hcut
  obtain ⟨p, c, hve, _⟩ := id hrd
  have HU := Lib.hid hu
  generalize xs.length = N at hve
  subst hve
  clear hb hv hrd hu
  go_enter Tryd.func46, Tryd.ntmps46
  go_wp2
  go_quiet (fail)
  go_wp2
  go_ret
  exact ⟨_, rfl, HU.out.gr ((Gr.refl w).drewN _), (Gr.refl w).drewN _⟩
theorem output (s : Nat) (big : Bool) (ch : Int) (xs : List Int) (w : World) (h : Sw w s big ch xs) :
    Calls Tryd.prog 47 #[.pointer (some ⟨s, 0, none⟩)] w fun e w' => ∃ u, e = .returned u ∧ Rd w' u xs ∧ Gr w w' := by
  have H := Lib.hid (bytesAt s big ch xs w h)
  clear h
  go_enter Tryd.func47, Tryd.ntmps47
  go_wp2_with (first | (go_at_call 46; go_must (refine H.out.mono ?_); rintro e w1 ⟨u, rfl, hu, hg⟩))
  go_ret
  exact ⟨u, rfl, hu, hg⟩

/-- A CLR of few bytes. -/
theorem putClr_short (s : Nat) (big : Bool) (ch : Int) (xs l : List Int) (v : Value) (w : World) (hS : Sw w s big ch xs) (hv : Rd w v l) (ha : Aside s w v) (hl : l.length ≤ 252) (hlim : xs.length ≤ 10000000000) :
    Calls Tryd.prog 41 #[.pointer (some ⟨s, 0, none⟩), v] w (RetP w s big ch (xs ++ ((l.length : Int) :: l))) := by
  obtain ⟨n, hn⟩ : ∃ n, l.length = n := ⟨_, rfl⟩
  have HB := Lib.hid (writeByte_sw s big ch xs n w hS (by omega) (by omega))
  have HW := fun w1 (h1 : Sw w1 s big ch (xs ++ [(n : Int)])) (h2 : Wx s w w1) => Lib.hid (write_sw s big ch (xs ++ [(n : Int)]) l v w1 h1 (hv.wx h2 ha) (ha.wx h2) (by simp; omega))
  obtain ⟨p, c, rfl, _⟩ := id hv
  rw [hn] at hl HW ⊢
  rw [show xs ++ (n : Int) :: l = xs ++ [(n : Int)] ++ l by simp]
  by_cases h0 : n = 0
  · obtain rfl : l = [] := List.eq_nil_of_length_eq_zero (by omega)
    subst h0
    rw [List.append_nil]
    clear hv ha hS HW hn
    go_enter Tryd.func41, Tryd.ntmps41
    go_wp2_with (first | (go_at_call 75; go_must (refine HB.out.mono ?_); rintro e w1 ⟨rfl, h1, h2⟩))
    go_end0
    exact ⟨rfl, h1, h2⟩
  · have e0 : ((n : Int) == 0) = false := beq_eq_false_iff_ne.2 (by omega)
    clear hv ha hS hn
    go_enter Tryd.func41, Tryd.ntmps41
    go_wp2_with (first
      | (go_at_call 75; go_must (refine HB.out.mono ?_); rintro e w1 ⟨rfl, h1, h2⟩)
      | (go_at_call 74; go_must (refine (HW _ h1 h2).out.mono ?_); rintro e w2 ⟨rfl, h3, h4⟩))
    go_end0
    exact ⟨rfl, h3, h2.trans h4⟩

/-- A step of a writer. -/
structure Pt where
  k : Int
  d : List Int
  o : List Int
  n : Int
  u : Int
  sz : Int
  fl : Int
  be : Bool
  co : Bool

/-- The slice value v reads as the steps l. -/
def RdPt (w : World) (v : Value) (l : List Pt) : Prop :=
  ∃ p c, v = .slice p l.length c ∧ l.length ≤ c ∧ c ≤ maxLen ∧ (0 < l.length → ∃ b o, p = some ⟨b, o, none⟩ ∧ ∀ i (hi : i < l.length), ∃ dv ov, Rd w dv l[i].d ∧ Rd w ov l[i].o ∧
    w.cell? ⟨b, o + i * 9, none⟩ = some (.int .i64 l[i].k) ∧ w.cell? ⟨b, o + i * 9 + 1, none⟩ = some dv ∧ w.cell? ⟨b, o + i * 9 + 2, none⟩ = some ov ∧ w.cell? ⟨b, o + i * 9 + 3, none⟩ = some (.int .i64 l[i].n) ∧
    w.cell? ⟨b, o + i * 9 + 4, none⟩ = some (.int .u64 l[i].u) ∧ w.cell? ⟨b, o + i * 9 + 5, none⟩ = some (.int .u8 l[i].sz) ∧ w.cell? ⟨b, o + i * 9 + 6, none⟩ = some (.int .u8 l[i].fl) ∧ w.cell? ⟨b, o + i * 9 + 7, none⟩ = some (.bool l[i].be) ∧ w.cell? ⟨b, o + i * 9 + 8, none⟩ = some (.bool l[i].co))
theorem RdPt.gr {a w : World} {v : Value} {l : List Pt} (h : RdPt a v l) (g : Gr a w) : RdPt w v l := by
  obtain ⟨p, c, rfl, h1, h2, h3⟩ := h
  refine ⟨p, c, rfl, h1, h2, fun hn => ?_⟩
  obtain ⟨b, o, rfl, hc⟩ := h3 hn
  refine ⟨b, o, rfl, fun i hi => ?_⟩
  obtain ⟨dv, ov, r1, r2, k0, k1, k2, k3, k4, k5, k6, k7, k8⟩ := hc i hi
  exact ⟨dv, ov, r1.gr g, r2.gr g, g.cell k0, g.cell k1, g.cell k2, g.cell k3, g.cell k4, g.cell k5, g.cell k6, g.cell k7, g.cell k8⟩

/-- What a step writes, in any session. -/
inductive Puts (big : Bool) (ch : Int) : Pt → List Int → Prop
  | bytes {x} : x.k = 0 → Puts big ch x x.d
  | clr {x out} : x.k = 1 → (∀ s xs v w, Sw w s big ch xs → Rd w v x.d → Aside s w v → xs.length ≤ 10000000 → Calls Tryd.prog 41 #[.pointer (some ⟨s, 0, none⟩), v] w (RetP w s big ch (xs ++ out))) → Puts big ch x out
  | int {x out} : x.k = 2 → (∀ s xs w, Sw w s big ch xs → xs.length ≤ 10000000 → Calls Tryd.prog 42 #[.pointer (some ⟨s, 0, none⟩), .iface 2 (.int .i64 x.n), .int .u8 x.sz, .bool x.be, .bool x.co] w (RetP w s big ch (xs ++ out))) → Puts big ch x out
  | uint {x out} : x.k = 3 → (∀ s xs w, Sw w s big ch xs → xs.length ≤ 10000000 → Calls Tryd.prog 43 #[.pointer (some ⟨s, 0, none⟩), .iface 36 (.int .u64 x.u), .int .u8 x.sz, .bool x.be, .bool x.co] w (RetP w s big ch (xs ++ out))) → Puts big ch x out
  | kv {x out} : x.k = 4 → (∀ s xs v u w, Sw w s big ch xs → Rd w v x.d → Aside s w v → Rd w u x.o → Aside s w u → xs.length ≤ 10000000 → Calls Tryd.prog 44 #[.pointer (some ⟨s, 0, none⟩), v, u, .int .u8 x.fl] w (RetP w s big ch (xs ++ out))) → Puts big ch x out

/-- What steps write. -/
inductive PutAll (big : Bool) (ch : Int) : List Pt → List Int → Prop
  | nil : PutAll big ch [] []
  | cons {x l out outs} : Puts big ch x out → PutAll big ch l outs → PutAll big ch (x :: l) (out ++ outs)

theorem Wx.gr0 {s : Nat} {w a w' : World} (h : Wx s a w') (g : Gr w a) (hs : w.heap.size ≤ s) (hr : ∀ k, rowOf s a = some k → s < k) : Gr w w' :=
  ⟨h.os.trans g.os, h.tape.trans g.tape, h.output.trans g.output, Nat.le_trans g.size h.size, fun k hk => by
    rw [h.block k (Nat.lt_of_lt_of_le hk g.size) (by omega) (fun e => by have := hr k e.symm; omega)]
    exact g.block hk⟩
theorem Sw.row_gt {w : World} {s : Nat} {big : Bool} {ch : Int} {xs : List Int} (h : Sw w s big ch xs) : ∀ k, rowOf s w = some k → s < k := by
  obtain ⟨v, lr, hb, hv⟩ := h
  intro k hk
  have e : w.cell? ⟨s, 1, none⟩ = some v := (blk_cell hb 1).trans rfl
  unfold rowOf at hk
  rw [e] at hk
  rcases hv with ⟨rfl, _⟩ | ⟨g, cap, rfl, _, h3, ho⟩
  · cases hk
  · simp [Value.ownBlock] at hk
    subst hk
    exact h3
theorem putAll_drop {big : Bool} {ch : Int} {x : Pt} {l : List Pt} {outs : List Int} (h : PutAll big ch (x :: l) outs) : ∃ o1 o2, Puts big ch x o1 ∧ PutAll big ch l o2 ∧ outs = o1 ++ o2 := by
  cases h with
  | cons h1 h2 => exact ⟨_, _, h1, h2, rfl⟩
end Go.Proofs.YtgkccbfepjgjoaaDoor
