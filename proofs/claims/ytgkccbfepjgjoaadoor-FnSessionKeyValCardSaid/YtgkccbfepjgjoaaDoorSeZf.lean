/- PutKeyVal. -/
import Derived.Test.YtgkccbfepjgjoaaDoorSeZe
namespace Go.Proofs.YtgkccbfepjgjoaaDoor
open Go Go.RowKit

set_option maxRecDepth 100000 in
set_option maxHeartbeats 2000000 in
theorem putKeyVal (s : Nat) (big : Bool) (c : Nat) (xs k l : List Int) (f : Nat) (v u : Value) (w : World) (hS : Sw w s big c xs) (hv : Rd w v k) (ha : Aside s w v) (hu : Rd w u l) (hb : Aside s w u) (hk : k.length ≤ 10000) (hl : l.length ≤ 10000) (hf : f < 256) (hc1 : 1 ≤ c) (hc2 : c ≤ 252)
    (hlim : xs.length ≤ 10000000) (hkb : (dlcB big c k).length ≤ 10000000) (hlb : (dlcB big c l).length ≤ 10000000) :
    Calls Tryd.prog 44 #[.pointer (some ⟨s, 0, none⟩), v, u, .int .u8 f] w (RetP w s big c (xs ++ (dlcB big c k ++ dlcB big c l ++ pkB f))) := by
  obtain ⟨n, hn⟩ : ∃ n, k.length = n := ⟨_, rfl⟩
  obtain ⟨m, hm⟩ : ∃ m, l.length = m := ⟨_, rfl⟩
  have HZ := fun w' ys (h : Sw w' s big c ys) (hy : ys.length ≤ 100000000) => Lib.hid (writeByte_sw s big c ys 0 w' h (by omega) (by omega))
  have HU := fun w' ys q (h : Sw w' s big c ys) (hy : ys.length ≤ 100000000) h1 h2 => Lib.hid (putLen s big c ys q w' h h1 h2 (by omega))
  have HF := fun w' ys (h : Sw w' s big c ys) (hy : ys.length ≤ 100000000) => Lib.hid (putFlag s big c ys f w' h hf (by omega))
  have HK := fun w' ys (h : Sw w' s big c ys) (hx : Wx s w w') (hy : ys.length ≤ 100000000) => Lib.hid (putClr_any s big c ys k v w' h (hv.wx hx ha) (ha.wx hx) (by omega) hc1 hc2 (by omega))
  have HV := fun w' ys (h : Sw w' s big c ys) (hx : Wx s w w') (hy : ys.length ≤ 100000000) => Lib.hid (putClr_any s big c ys l u w' h (hu.wx hx hb) (hb.wx hx) (by omega) hc1 hc2 (by omega))
  obtain ⟨p, cp, rfl, _⟩ := id hv
  obtain ⟨q, cq, rfl, _⟩ := id hu
  rw [hn] at HK ⊢
  rw [hm] at HV ⊢
  have HS := Lib.hid hS
  have HKB := Lib.hid hkb
  have HLB := Lib.hid hlb
  have HDK := Lib.hid (show dlcB big c k = if n = 0 then [0] else pkB n ++ clrB big c k by unfold dlcB; rw [← hn]; simp only [List.length_eq_zero_iff])
  have HDL := Lib.hid (show dlcB big c l = if m = 0 then [0] else pkB m ++ clrB big c l by unfold dlcB; rw [← hm]; simp only [List.length_eq_zero_iff])
  have hnk : n ≤ 10000 := by omega
  have hml : m ≤ 10000 := by omega
  have tok1 : True := trivial
  have tok2 : True := trivial
  clear hS hv ha hu hb hn hm hkb hlb
  have E1 := Lib.hid (show (pkB n).length ≤ 3 from pkB_len n)
  have E2 := Lib.hid (show (pkB m).length ≤ 3 from pkB_len m)
  have tok3 : True := trivial
  by_cases hn0 : n = 0 <;> by_cases hm0 : m = 0
  · have dk := HDK.out
    have dl := HDL.out
    rw [if_pos hn0] at dk
    rw [if_pos hm0] at dl
    have lk := HKB.out
    have ll := HLB.out
    rw [dk] at lk
    rw [dl] at ll
    rw [dk, dl]
    simp only [List.length_append, List.length_cons, List.length_nil] at lk ll
    have e1 := E1.out
    have e2 := E2.out
    have LL := Lib.hid (And.intro (And.intro lk ll) (And.intro e1 e2))
    clear dk dl lk ll e1 e2
    subst hn0
    subst hm0
    go_enter Tryd.func44, Tryd.ntmps44
    go_wp2_with (first
      | (go_at_call 75; have _t := tok1; go_must (refine (HZ _ _ HS.out (by have := LL.out; (try simp only [List.length_append, List.length_cons, List.length_nil]); omega)).out.mono ?_); rintro e w1 ⟨rfl, g1, y1⟩; clear tok1 _t)
      | (go_at_call 75; go_must (refine (HZ w1 _ g1 (by have := LL.out; (try simp only [List.length_append, List.length_cons, List.length_nil]); omega)).out.mono ?_); rintro e w2 ⟨rfl, g2, y2'⟩; have y2 := y1.trans y2')
      | (go_at_call 42; go_must (refine (HF w2 _ g2 (by have := LL.out; (try simp only [List.length_append, List.length_cons, List.length_nil]); omega)).out.mono ?_); rintro e w3 ⟨rfl, g3, y3⟩))
    go_end0
    exact ⟨rfl, by simpa [List.append_assoc] using g3, y2.trans y3⟩
  · have dk := HDK.out
    have dl := HDL.out
    rw [if_pos hn0] at dk
    rw [if_neg hm0] at dl
    have lk := HKB.out
    have ll := HLB.out
    rw [dk] at lk
    rw [dl] at ll
    rw [dk, dl]
    simp only [List.length_append, List.length_cons, List.length_nil] at lk ll
    have e1 := E1.out
    have e2 := E2.out
    have LL := Lib.hid (And.intro (And.intro lk ll) (And.intro e1 e2))
    clear dk dl lk ll e1 e2
    subst hn0
    have m0 : ((m : Int) == 0) = false := beq_eq_false_iff_ne.2 (by omega)
    have m1 : 1 ≤ m := by omega
    clear hm0
    go_enter Tryd.func44, Tryd.ntmps44
    go_wp2_with (first
      | (go_at_call 75; have _t := tok1; go_must (refine (HZ _ _ HS.out (by have := LL.out; (try simp only [List.length_append, List.length_cons, List.length_nil]); omega)).out.mono ?_); rintro e w1 ⟨rfl, g1, y1⟩; clear tok1 _t)
      | (go_at_call 43; go_must (refine (HU w1 _ m g1 (by have := LL.out; (try simp only [List.length_append, List.length_cons, List.length_nil]); omega) m1 (by omega)).out.mono ?_); rintro e wb ⟨rfl, gb, yb'⟩; have yb := y1.trans yb')
      | (go_at_call 41; go_must (refine (HV wb _ gb yb (by have := LL.out; (try simp only [List.length_append, List.length_cons, List.length_nil]); omega)).out.mono ?_); rintro e w2 ⟨rfl, g2, y2'⟩; have y2 := yb.trans y2')
      | (go_at_call 42; go_must (refine (HF w2 _ g2 (by have := LL.out; (try simp only [List.length_append, List.length_cons, List.length_nil]); omega)).out.mono ?_); rintro e w3 ⟨rfl, g3, y3⟩))
    go_end0
    exact ⟨rfl, by simpa [List.append_assoc] using g3, y2.trans y3⟩
  · have dk := HDK.out
    have dl := HDL.out
    rw [if_neg hn0] at dk
    rw [if_pos hm0] at dl
    have lk := HKB.out
    have ll := HLB.out
    rw [dk] at lk
    rw [dl] at ll
    rw [dk, dl]
    simp only [List.length_append, List.length_cons, List.length_nil] at lk ll
    have e1 := E1.out
    have e2 := E2.out
    have LL := Lib.hid (And.intro (And.intro lk ll) (And.intro e1 e2))
    clear dk dl lk ll e1 e2
    have n0 : ((n : Int) == 0) = false := beq_eq_false_iff_ne.2 (by omega)
    have n1 : 1 ≤ n := by omega
    clear hn0
    subst hm0
    go_enter Tryd.func44, Tryd.ntmps44
    go_wp2_with (first
      | (go_at_call 43; have _t := tok1; go_must (refine (HU _ _ n HS.out (by have := LL.out; (try simp only [List.length_append, List.length_cons, List.length_nil]); omega) n1 (by omega)).out.mono ?_); rintro e wa ⟨rfl, ga, ya⟩; clear tok1 _t)
      | (go_at_call 41; have _t := tok3; go_must (refine (HK wa _ ga ya (by have := LL.out; (try simp only [List.length_append, List.length_cons, List.length_nil]); omega)).out.mono ?_); rintro e w1 ⟨rfl, g1, y1'⟩; have y1 := ya.trans y1'; clear tok3 _t)
      | (go_at_call 75; go_must (refine (HZ w1 _ g1 (by have := LL.out; (try simp only [List.length_append, List.length_cons, List.length_nil]); omega)).out.mono ?_); rintro e w2 ⟨rfl, g2, y2'⟩; have y2 := y1.trans y2')
      | (go_at_call 42; go_must (refine (HF w2 _ g2 (by have := LL.out; (try simp only [List.length_append, List.length_cons, List.length_nil]); omega)).out.mono ?_); rintro e w3 ⟨rfl, g3, y3⟩))
    go_end0
    exact ⟨rfl, by simpa [List.append_assoc] using g3, y2.trans y3⟩
  · have dk := HDK.out
    have dl := HDL.out
    rw [if_neg hn0] at dk
    rw [if_neg hm0] at dl
    have lk := HKB.out
    have ll := HLB.out
    rw [dk] at lk
    rw [dl] at ll
    rw [dk, dl]
    simp only [List.length_append, List.length_cons, List.length_nil] at lk ll
    have e1 := E1.out
    have e2 := E2.out
    have LL := Lib.hid (And.intro (And.intro lk ll) (And.intro e1 e2))
    clear dk dl lk ll e1 e2
    have n0 : ((n : Int) == 0) = false := beq_eq_false_iff_ne.2 (by omega)
    have n1 : 1 ≤ n := by omega
    clear hn0
    have m0 : ((m : Int) == 0) = false := beq_eq_false_iff_ne.2 (by omega)
    have m1 : 1 ≤ m := by omega
    clear hm0
    go_enter Tryd.func44, Tryd.ntmps44
    go_wp2_with (first
      | (go_at_call 43; have _t := tok1; go_must (refine (HU _ _ n HS.out (by have := LL.out; (try simp only [List.length_append, List.length_cons, List.length_nil]); omega) n1 (by omega)).out.mono ?_); rintro e wa ⟨rfl, ga, ya⟩; clear tok1 _t)
      | (go_at_call 41; have _t := tok3; go_must (refine (HK wa _ ga ya (by have := LL.out; (try simp only [List.length_append, List.length_cons, List.length_nil]); omega)).out.mono ?_); rintro e w1 ⟨rfl, g1, y1'⟩; have y1 := ya.trans y1'; clear tok3 _t)
      | (go_at_call 43; go_must (refine (HU w1 _ m g1 (by have := LL.out; (try simp only [List.length_append, List.length_cons, List.length_nil]); omega) m1 (by omega)).out.mono ?_); rintro e wb ⟨rfl, gb, yb'⟩; have yb := y1.trans yb')
      | (go_at_call 41; go_must (refine (HV wb _ gb yb (by have := LL.out; (try simp only [List.length_append, List.length_cons, List.length_nil]); omega)).out.mono ?_); rintro e w2 ⟨rfl, g2, y2'⟩; have y2 := yb.trans y2')
      | (go_at_call 42; go_must (refine (HF w2 _ g2 (by have := LL.out; (try simp only [List.length_append, List.length_cons, List.length_nil]); omega)).out.mono ?_); rintro e w3 ⟨rfl, g3, y3⟩))
    go_end0
    exact ⟨rfl, by simpa [List.append_assoc] using g3, y2.trans y3⟩
end Go.Proofs.YtgkccbfepjgjoaaDoor
