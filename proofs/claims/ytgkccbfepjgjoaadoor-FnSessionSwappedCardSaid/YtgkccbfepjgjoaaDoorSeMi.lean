/- Several texts in one (merge.py): SeZd, SeZe, SeZf, SeZg. -/
import Derived.Test.YtgkccbfepjgjoaaDoorSeMh
import Derived.Test.YtgkccbfepjgjoaaDoorSeMj
/- A CLR of more than 252 bytes is written in parts. -/
namespace Go.Proofs.YtgkccbfepjgjoaaDoor
open Go Go.RowKit

/-- Bytes in parts of at most c. -/
def chunks (c : Nat) : Nat → List Int → List (List Int)
  | 0, _ => []
  | f + 1, l => if l = [] then [] else l.take c :: chunks c f (l.drop c)
theorem row_one (m : Nat) (_h1 : 1 ≤ m) (h2 : m ≤ 255) : numB true 8 m = row8 7 [(m : Int)] := by
  simp [numB, row8, Lib.beBytes, Lib.leBytes, List.replicate]
  omega
theorem putHead (s : Nat) (big : Bool) (ch : Int) (xs : List Int) (m : Nat) (w : World) (hS : Sw w s big ch xs) (h1 : 1 ≤ m) (h2 : m ≤ 255) (hlim : xs.length ≤ 10000000000) :
    Calls Tryd.prog 42 #[.pointer (some ⟨s, 0, none⟩), .iface 3 (.int .i64 m), .int .u8 4, .bool true, .bool true] w (RetP w s big ch (xs ++ [1, (m : Int)])) :=
  putInt_pk_int s big ch xs m 7 (m : Int) [] w hS (by omega) (row_one m h1 h2) (by omega) rfl (by omega) hlim

set_option maxRecDepth 100000 in
set_option maxHeartbeats 4000000 in
theorem putClr_long (s : Nat) (big : Bool) (c : Nat) (xs l : List Int) (v : Value) (w : World) (hS : Sw w s big c xs) (hv : Rd w v l) (ha : Aside s w v) (hl : 252 < l.length) (hl2 : l.length ≤ 100000) (hc1 : 1 ≤ c) (hc2 : c ≤ 252) (hlim : xs.length ≤ 1000000000) :
    Calls Tryd.prog 41 #[.pointer (some ⟨s, 0, none⟩), v] w (RetP w s big c (xs ++ (254 :: (chunks c l.length l).flatMap (partB big) ++ [0]))) := by
  obtain ⟨b, o, cap, rfl, hcap, hcm, hat⟩ := hv.at' (by omega)
  obtain ⟨n, hn⟩ : ∃ n, l.length = n := ⟨_, rfl⟩
  have hcm2 : cap ≤ 9223372036854775807 := by simp only [maxLen] at hcm; omega
  have HB := Lib.hid (writeByte_sw s big c xs 254 w hS (by omega) (by omega))
  have HAT := Lib.hid hat
  have HASI := Lib.hid (ha ⟨b, o, none⟩ _ _ rfl)
  have HN := Lib.hid hn
  have hl3 := hn ▸ hl
  have hl4 := hn ▸ hl2
  have HL := Lib.hid hlim
  rw [hn] at hcap ⊢
  clear hS hv ha hl hl2 hat hcm hn hlim
  go_enter Tryd.func41, Tryd.ntmps41
  go_wp2_with (first | (go_at_call 75; go_must (refine HB.out.mono ?_); rintro e w1 ⟨rfl, h1, h2⟩; have HS1 := Lib.hid h1; have HX1 := Lib.hid h2; clear h1 h2))
  go_loopw [5] (fun iv wr => ∃ st f : Nat, iv = .int .i64 st ∧ n ≤ st + f ∧ st ≤ n + 252 ∧ ∃ pre, Sw wr s big c (xs ++ pre) ∧ pre ++ (chunks c f (l.drop st)).flatMap (partB big) = 254 :: (chunks c n l).flatMap (partB big) ∧ pre.length ≤ 1 + 3 * st ∧ Wx s w wr) (fun iv _ => n - (intOf iv).toNat)
  case atStart => exact ⟨0, n, rfl, by omega, by omega, [254], HS1.out, rfl, by simp, HX1.out⟩
  case round =>
    obtain ⟨st, f, rfl, hf, hst, pre, hsw, hpre, hpl, hwx⟩ := hrel
    by_cases e : st < n
    · obtain ⟨f', rfl⟩ : ∃ f', f = f' + 1 := ⟨f - 1, by omega⟩
      have hdl : (l.drop st).length = n - st := by rw [List.length_drop, HN.out]
      have hne : l.drop st ≠ [] := fun h => by rw [h] at hdl; simp at hdl; omega
      have hch : chunks c (f' + 1) (l.drop st) = (l.drop st).take c :: chunks c f' (l.drop (st + c)) := by simp [chunks, hne, List.drop_drop]
      obtain ⟨m, hm⟩ : ∃ m, min c (n - st) = m := ⟨_, rfl⟩
      have hm1 : 1 ≤ m := by omega
      have hm2 : m ≤ 252 := by omega
      have hm3 : st + m ≤ n := by omega
      have hmc : m ≤ c := by omega
      have hx : ((l.drop st).take c).length = m := by rw [List.length_take, hdl, hm]
      have hrx : Rd w (.slice (some ⟨b, o + st, none⟩) m (cap - st)) ((l.drop st).take c) := ((HAT.out.drop st).take c).rd hx (by omega) (by simp only [maxLen]; omega)
      have hax : Aside s w (.slice (some ⟨b, o + st, none⟩) m (cap - st)) := fun a' n' c' e => by
        injection e with e
        injection e with e
        subst e
        exact HASI.out
      rw [hch, List.flatMap_cons] at hpre
      generalize (l.drop st).take c = x at *
      have hlen : (xs ++ pre).length ≤ 2000000000 := by have := HL.out; rw [List.length_append]; omega
      have HX := Lib.hid hx
      have HWr := fun w5 ys (h : Sw w5 s big c ys) (hx5 : Wx s w w5) (hl5 : ys.length ≤ 3000000000) => Lib.hid (write_sw s big c ys x _ w5 h (hrx.wx hx5 hax) (hax.wx hx5) (by rw [HX.out]; omega))
      have HPRE := Lib.hid hpre
      have HWX := Lib.hid hwx
      have HLEN := Lib.hid hlen
      have HPL := Lib.hid hpl
      have HHI := fun hb : big = true => Lib.hid (putHead s big c (xs ++ pre) m wr hsw hm1 (by omega) (by omega))
      have HHB := Lib.hid (writeByte_sw s big c (xs ++ pre) m wr hsw (by omega) (by omega))
      have c5 := hsw.c5
      have c6 := hsw.c6
      have hslt := hsw.lt
      have hw : IntKind.i64.wrap ((st : Int) + (c : Int)) = (st : Int) + c := by rw [IntKind.wrap_i64]; omega
      have mw : IntKind.u8.wrap (m : Int) = m := by rw [IntKind.wrap_u8]; omega
      have hco : cutOff o cap st = o + st := by unfold cutOff; rw [if_neg (by omega)]
      have es : (st : Int) < n := by omega
      have done' : ∀ w6, Sw w6 s big c (xs ++ pre ++ (if big = true then [1, (m : Int)] else [(m : Int)]) ++ x) → Wx s wr w6 → ∃ pre', Sw w6 s big c (xs ++ pre') ∧ pre' ++ (chunks c f' (l.drop (st + c))).flatMap (partB big) = 254 :: (chunks c n l).flatMap (partB big) ∧ pre'.length ≤ 1 + 3 * (st + c) ∧ Wx s w w6 := by
        intro w6 h6 hx6
        refine ⟨pre ++ partB big x, ?_, ?_, ?_, HWX.out.trans hx6⟩
        · unfold partB; rw [HX.out, ← List.append_assoc, ← List.append_assoc]; exact h6
        · rw [List.append_assoc]; exact HPRE.out
        · have := HPL.out
          unfold partB
          rw [List.length_append, List.length_append, HX.out]
          split <;> simp <;> omega
      have DONE := Lib.hid done'
      clear hsw hwx hpre hpl hlen hx hrx hax hdl hne hch done'
      by_cases hA : st + c ≤ n
      · obtain rfl : m = c := by omega
        have hsl := fun W => run_cut2 (P := Tryd.prog) Go.Proofs.YtgkccbfepjgjoaaDoor.u8 b o n cap st m (st : Int) ((st : Int) + m) rfl rfl (by omega) W
        rw [hco] at hsl
        have eA : (st : Int) + m ≤ n := by omega
        clear hm hco
        cases big
        · go_wp2_with (first
            | (go_at_call 75; go_must (refine HHB.out.mono ?_); rintro e w5 ⟨rfl, h5, hx5⟩; have d6 := h5.c6)
            | (go_at_call 74; go_must (refine (HWr w5 _ h5 (HWX.out.trans hx5) (by have := HLEN.out; simp only [List.length_append, List.length_cons, List.length_nil] at this ⊢; omega)).out.mono ?_); rintro e w6 ⟨rfl, h6, hx6⟩; have d6 := h6.c6))
          go_roundw
          case rel => exact ⟨st + m, f', by go_num, by omega, by omega, DONE.out _ h6 (hx5.trans hx6)⟩
          case measure => simp [intOf]; omega
        · go_wp2_with (first
            | (go_at_call 42; go_must (refine (HHI rfl).out.mono ?_); rintro e w5 ⟨rfl, h5, hx5⟩; have d6 := h5.c6)
            | (go_at_call 74; go_must (refine (HWr w5 _ h5 (HWX.out.trans hx5) (by have := HLEN.out; simp only [List.length_append, List.length_cons, List.length_nil] at this ⊢; omega)).out.mono ?_); rintro e w6 ⟨rfl, h6, hx6⟩; have d6 := h6.c6))
          go_roundw
          case rel => exact ⟨st + m, f', by go_num, by omega, by omega, DONE.out _ h6 (hx5.trans hx6)⟩
          case measure => simp [intOf]; omega
      · have hsl := fun W => run_cut2 (P := Tryd.prog) Go.Proofs.YtgkccbfepjgjoaaDoor.u8 b o n cap st m (st : Int) (n : Int) rfl (by omega) (by omega) W
        rw [hco] at hsl
        have eA : (n : Int) < (st : Int) + c := by omega
        clear hm hco
        cases big
        · go_wp2_with (first
            | (go_at_call 75; go_must (refine HHB.out.mono ?_); rintro e w5 ⟨rfl, h5, hx5⟩; have d6 := h5.c6)
            | (go_at_call 74; go_must (refine (HWr w5 _ h5 (HWX.out.trans hx5) (by have := HLEN.out; simp only [List.length_append, List.length_cons, List.length_nil] at this ⊢; omega)).out.mono ?_); rintro e w6 ⟨rfl, h6, hx6⟩; have d6 := h6.c6))
          go_roundw
          case rel => exact ⟨st + c, f', by go_num, by omega, by omega, DONE.out _ h6 (hx5.trans hx6)⟩
          case measure => simp [intOf]; omega
        · go_wp2_with (first
            | (go_at_call 42; go_must (refine (HHI rfl).out.mono ?_); rintro e w5 ⟨rfl, h5, hx5⟩; have d6 := h5.c6)
            | (go_at_call 74; go_must (refine (HWr w5 _ h5 (HWX.out.trans hx5) (by have := HLEN.out; simp only [List.length_append, List.length_cons, List.length_nil] at this ⊢; omega)).out.mono ?_); rintro e w6 ⟨rfl, h6, hx6⟩; have d6 := h6.c6))
          go_roundw
          case rel => exact ⟨st + c, f', by go_num, by omega, by omega, DONE.out _ h6 (hx5.trans hx6)⟩
          case measure => simp [intOf]; omega
    · have hd : l.drop st = [] := List.drop_of_length_le (by rw [HN.out]; omega)
      rw [hd] at hpre
      have hch : (chunks c f []).flatMap (partB big) = [] := by cases f <;> simp [chunks]
      rw [hch, List.append_nil] at hpre
      have HB2 := Lib.hid (writeByte_sw s big c (xs ++ pre) 0 _ hsw (by omega) (by have := HL.out; rw [List.length_append]; omega))
      have HP := Lib.hid hpre
      have HW := Lib.hid hwx
      clear hsw hwx hd hch hpre
      go_wp2_with (first | (go_at_call 75; go_must (refine HB2.out.mono ?_); rintro e w5 ⟨rfl, h5, h6⟩))
      go_end0
      refine ⟨rfl, ?_, HW.out.trans h6⟩
      show Sw _ s big c (xs ++ ((254 :: (chunks c n l).flatMap (partB big)) ++ [0]))
      rw [← HP.out, ← List.append_assoc]
      exact h5
end Go.Proofs.YtgkccbfepjgjoaaDoor

/- What PutKeyVal's parts write: numbers, flags, CLRs of any length. -/
namespace Go.Proofs.YtgkccbfepjgjoaaDoor
open Go Go.RowKit

/-- The bytes of a compressed number below 65536. -/
def pkB (u : Nat) : List Int := if u = 0 then [0] else if u ≤ 255 then [1, (u : Int)] else [2, ((u / 256 : Nat) : Int), ((u % 256 : Nat) : Int)]
theorem pkB_len (u : Nat) : (pkB u).length ≤ 3 := by unfold pkB; (repeat' split) <;> simp
theorem row_two (u : Nat) (h1 : 256 ≤ u) (h2 : u < 65536) : numB true 8 u = row8 6 [((u / 256 : Nat) : Int), ((u % 256 : Nat) : Int)] := by
  simp [numB, row8, Lib.beBytes, Lib.leBytes, List.replicate]
  omega
theorem putLen (s : Nat) (big : Bool) (ch : Int) (xs : List Int) (u : Nat) (w : World) (hS : Sw w s big ch xs) (h1 : 1 ≤ u) (h2 : u < 65536) (hlim : xs.length ≤ 10000000000) :
    Calls Tryd.prog 43 #[.pointer (some ⟨s, 0, none⟩), .iface 3 (.int .i64 u), .int .u8 4, .bool true, .bool true] w (RetP w s big ch (xs ++ pkB u)) := by
  unfold pkB
  rw [if_neg (by omega)]
  split
  · exact putUint_pk_int s big ch xs u 7 (u : Int) [] w hS (by omega) (row_one u h1 (by omega)) (by omega) rfl (by omega) hlim
  · exact putUint_pk_int s big ch xs u 6 _ _ w hS (by omega) (row_two u (by omega) h2) (by omega) rfl (by omega) hlim
theorem putFlag (s : Nat) (big : Bool) (ch : Int) (xs : List Int) (u : Nat) (w : World) (hS : Sw w s big ch xs) (h2 : u < 256) (hlim : xs.length ≤ 10000000000) :
    Calls Tryd.prog 42 #[.pointer (some ⟨s, 0, none⟩), .iface 5 (.int .u8 u), .int .u8 4, .bool true, .bool true] w (RetP w s big ch (xs ++ pkB u)) := by
  unfold pkB
  split
  · rename_i h; subst h; exact putInt_zero_u8 s big ch xs w hS hlim
  · rw [if_pos (by omega)]
    exact putInt_pk_u8 s big ch xs u 7 (u : Int) [] w hS (by omega) (row_one u (by omega) (by omega)) (by omega) rfl (by omega) hlim
/-- The bytes of a CLR. -/
def clrB (big : Bool) (c : Nat) (l : List Int) : List Int := if l.length ≤ 252 then (l.length : Int) :: l else 254 :: (chunks c l.length l).flatMap (partB big) ++ [0]
theorem putClr_any (s : Nat) (big : Bool) (c : Nat) (xs l : List Int) (v : Value) (w : World) (hS : Sw w s big c xs) (hv : Rd w v l) (ha : Aside s w v) (hl2 : l.length ≤ 100000) (hc1 : 1 ≤ c) (hc2 : c ≤ 252) (hlim : xs.length ≤ 1000000000) :
    Calls Tryd.prog 41 #[.pointer (some ⟨s, 0, none⟩), v] w (RetP w s big c (xs ++ clrB big c l)) := by
  unfold clrB
  split
  · exact putClr_short s big c xs l v w hS hv ha (by omega) (by omega)
  · exact putClr_long s big c xs l v w hS hv ha (by omega) hl2 hc1 hc2 hlim
/-- The bytes of a DLC. -/
def dlcB (big : Bool) (c : Nat) (l : List Int) : List Int := if l = [] then [0] else pkB l.length ++ clrB big c l

end Go.Proofs.YtgkccbfepjgjoaaDoor

/- PutKeyVal. -/
namespace Go.Proofs.YtgkccbfepjgjoaaDoor
open Go Go.RowKit

set_option maxRecDepth 100000 in
set_option maxHeartbeats 2000000 in
theorem putKeyVal (s : Nat) (big : Bool) (c : Nat) (xs k l : List Int) (f : Nat) (v u : Value) (w : World) (hS : Sw w s big c xs) (hv : Rd w v k) (ha : Aside s w v) (hu : Rd w u l) (hb : Aside s w u) (hk : k.length ≤ 10000) (hl : l.length ≤ 10000) (hf : f < 256) (hc1 : 1 ≤ c) (hc2 : c ≤ 252)
    (hlim : xs.length ≤ 10000000) (hkb : (dlcB big c k).length ≤ 10000000) (hlb : (dlcB big c l).length ≤ 10000000) :
    Calls Tryd.prog 44 #[.pointer (some ⟨s, 0, none⟩), v, u, .int .u8 f] w (RetP w s big c (xs ++ (dlcB big c k ++ dlcB big c l ++ pkB f))) := by
  obtain ⟨n, hn⟩ : ∃ n, k.length = n := ⟨_, rfl⟩
  obtain ⟨m, hm⟩ : ∃ m, l.length = m := ⟨_, rfl⟩
  have HZ := fun w' ys (h : Sw w' s big c ys) (hy : ys.length ≤ 100000000) => Lib.hid (writeByte_sw s big c ys 0 w' h (by omega) (by omega))
  have HU := fun w' ys q (h : Sw w' s big c ys) (hy : ys.length ≤ 100000000) h1 h2 => Lib.hid (putLen s big c ys q w' h h1 h2 (by omega))
  have HF := fun w' ys (h : Sw w' s big c ys) (hy : ys.length ≤ 100000000) => Lib.hid (putFlag s big c ys f w' h hf (by omega))
  have HK := fun w' ys (h : Sw w' s big c ys) (hx : Wx s w w') (hy : ys.length ≤ 100000000) => Lib.hid (putClr_any s big c ys k v w' h (hv.wx hx ha) (ha.wx hx) (by omega) hc1 hc2 (by omega))
  have HV := fun w' ys (h : Sw w' s big c ys) (hx : Wx s w w') (hy : ys.length ≤ 100000000) => Lib.hid (putClr_any s big c ys l u w' h (hu.wx hx hb) (hb.wx hx) (by omega) hc1 hc2 (by omega))
  obtain ⟨p, cp, rfl, _⟩ := id hv
  obtain ⟨q, cq, rfl, _⟩ := id hu
  rw [hn] at HK ⊢
  rw [hm] at HV ⊢
  have HS := Lib.hid hS
  have HKB := Lib.hid hkb
  have HLB := Lib.hid hlb
  have HDK := Lib.hid (show dlcB big c k = if n = 0 then [0] else pkB n ++ clrB big c k by unfold dlcB; rw [← hn]; simp only [List.length_eq_zero_iff])
  have HDL := Lib.hid (show dlcB big c l = if m = 0 then [0] else pkB m ++ clrB big c l by unfold dlcB; rw [← hm]; simp only [List.length_eq_zero_iff])
  have hnk : n ≤ 10000 := by omega
  have hml : m ≤ 10000 := by omega
  have tok1 : True := trivial
  have tok2 : True := trivial
  clear hS hv ha hu hb hn hm hkb hlb
  have E1 := Lib.hid (show (pkB n).length ≤ 3 from pkB_len n)
  have E2 := Lib.hid (show (pkB m).length ≤ 3 from pkB_len m)
  have tok3 : True := trivial
  by_cases hn0 : n = 0 <;> by_cases hm0 : m = 0
  · have dk := HDK.out
    have dl := HDL.out
    rw [if_pos hn0] at dk
    rw [if_pos hm0] at dl
    have lk := HKB.out
    have ll := HLB.out
    rw [dk] at lk
    rw [dl] at ll
    rw [dk, dl]
    simp only [List.length_append, List.length_cons, List.length_nil] at lk ll
    have e1 := E1.out
    have e2 := E2.out
    have LL := Lib.hid (And.intro (And.intro lk ll) (And.intro e1 e2))
    clear dk dl lk ll e1 e2
    subst hn0
    subst hm0
    go_enter Tryd.func44, Tryd.ntmps44
    go_wp2_with (first
      | (go_at_call 75; have _t := tok1; go_must (refine (HZ _ _ HS.out (by have := LL.out; (try simp only [List.length_append, List.length_cons, List.length_nil]); omega)).out.mono ?_); rintro e w1 ⟨rfl, g1, y1⟩; clear tok1 _t)
      | (go_at_call 75; go_must (refine (HZ w1 _ g1 (by have := LL.out; (try simp only [List.length_append, List.length_cons, List.length_nil]); omega)).out.mono ?_); rintro e w2 ⟨rfl, g2, y2'⟩; have y2 := y1.trans y2')
      | (go_at_call 42; go_must (refine (HF w2 _ g2 (by have := LL.out; (try simp only [List.length_append, List.length_cons, List.length_nil]); omega)).out.mono ?_); rintro e w3 ⟨rfl, g3, y3⟩))
    go_end0
    exact ⟨rfl, by simpa [List.append_assoc] using g3, y2.trans y3⟩
  · have dk := HDK.out
    have dl := HDL.out
    rw [if_pos hn0] at dk
    rw [if_neg hm0] at dl
    have lk := HKB.out
    have ll := HLB.out
    rw [dk] at lk
    rw [dl] at ll
    rw [dk, dl]
    simp only [List.length_append, List.length_cons, List.length_nil] at lk ll
    have e1 := E1.out
    have e2 := E2.out
    have LL := Lib.hid (And.intro (And.intro lk ll) (And.intro e1 e2))
    clear dk dl lk ll e1 e2
    subst hn0
    have m0 : ((m : Int) == 0) = false := beq_eq_false_iff_ne.2 (by omega)
    have m1 : 1 ≤ m := by omega
    clear hm0
    go_enter Tryd.func44, Tryd.ntmps44
    go_wp2_with (first
      | (go_at_call 75; have _t := tok1; go_must (refine (HZ _ _ HS.out (by have := LL.out; (try simp only [List.length_append, List.length_cons, List.length_nil]); omega)).out.mono ?_); rintro e w1 ⟨rfl, g1, y1⟩; clear tok1 _t)
      | (go_at_call 43; go_must (refine (HU w1 _ m g1 (by have := LL.out; (try simp only [List.length_append, List.length_cons, List.length_nil]); omega) m1 (by omega)).out.mono ?_); rintro e wb ⟨rfl, gb, yb'⟩; have yb := y1.trans yb')
      | (go_at_call 41; go_must (refine (HV wb _ gb yb (by have := LL.out; (try simp only [List.length_append, List.length_cons, List.length_nil]); omega)).out.mono ?_); rintro e w2 ⟨rfl, g2, y2'⟩; have y2 := yb.trans y2')
      | (go_at_call 42; go_must (refine (HF w2 _ g2 (by have := LL.out; (try simp only [List.length_append, List.length_cons, List.length_nil]); omega)).out.mono ?_); rintro e w3 ⟨rfl, g3, y3⟩))
    go_end0
    exact ⟨rfl, by simpa [List.append_assoc] using g3, y2.trans y3⟩
  · have dk := HDK.out
    have dl := HDL.out
    rw [if_neg hn0] at dk
    rw [if_pos hm0] at dl
    have lk := HKB.out
    have ll := HLB.out
    rw [dk] at lk
    rw [dl] at ll
    rw [dk, dl]
    simp only [List.length_append, List.length_cons, List.length_nil] at lk ll
    have e1 := E1.out
    have e2 := E2.out
    have LL := Lib.hid (And.intro (And.intro lk ll) (And.intro e1 e2))
    clear dk dl lk ll e1 e2
    have n0 : ((n : Int) == 0) = false := beq_eq_false_iff_ne.2 (by omega)
    have n1 : 1 ≤ n := by omega
    clear hn0
    subst hm0
    go_enter Tryd.func44, Tryd.ntmps44
    go_wp2_with (first
      | (go_at_call 43; have _t := tok1; go_must (refine (HU _ _ n HS.out (by have := LL.out; (try simp only [List.length_append, List.length_cons, List.length_nil]); omega) n1 (by omega)).out.mono ?_); rintro e wa ⟨rfl, ga, ya⟩; clear tok1 _t)
      | (go_at_call 41; have _t := tok3; go_must (refine (HK wa _ ga ya (by have := LL.out; (try simp only [List.length_append, List.length_cons, List.length_nil]); omega)).out.mono ?_); rintro e w1 ⟨rfl, g1, y1'⟩; have y1 := ya.trans y1'; clear tok3 _t)
      | (go_at_call 75; go_must (refine (HZ w1 _ g1 (by have := LL.out; (try simp only [List.length_append, List.length_cons, List.length_nil]); omega)).out.mono ?_); rintro e w2 ⟨rfl, g2, y2'⟩; have y2 := y1.trans y2')
      | (go_at_call 42; go_must (refine (HF w2 _ g2 (by have := LL.out; (try simp only [List.length_append, List.length_cons, List.length_nil]); omega)).out.mono ?_); rintro e w3 ⟨rfl, g3, y3⟩))
    go_end0
    exact ⟨rfl, by simpa [List.append_assoc] using g3, y2.trans y3⟩
  · have dk := HDK.out
    have dl := HDL.out
    rw [if_neg hn0] at dk
    rw [if_neg hm0] at dl
    have lk := HKB.out
    have ll := HLB.out
    rw [dk] at lk
    rw [dl] at ll
    rw [dk, dl]
    simp only [List.length_append, List.length_cons, List.length_nil] at lk ll
    have e1 := E1.out
    have e2 := E2.out
    have LL := Lib.hid (And.intro (And.intro lk ll) (And.intro e1 e2))
    clear dk dl lk ll e1 e2
    have n0 : ((n : Int) == 0) = false := beq_eq_false_iff_ne.2 (by omega)
    have n1 : 1 ≤ n := by omega
    clear hn0
    have m0 : ((m : Int) == 0) = false := beq_eq_false_iff_ne.2 (by omega)
    have m1 : 1 ≤ m := by omega
    clear hm0
    go_enter Tryd.func44, Tryd.ntmps44
    go_wp2_with (first
      | (go_at_call 43; have _t := tok1; go_must (refine (HU _ _ n HS.out (by have := LL.out; (try simp only [List.length_append, List.length_cons, List.length_nil]); omega) n1 (by omega)).out.mono ?_); rintro e wa ⟨rfl, ga, ya⟩; clear tok1 _t)
      | (go_at_call 41; have _t := tok3; go_must (refine (HK wa _ ga ya (by have := LL.out; (try simp only [List.length_append, List.length_cons, List.length_nil]); omega)).out.mono ?_); rintro e w1 ⟨rfl, g1, y1'⟩; have y1 := ya.trans y1'; clear tok3 _t)
      | (go_at_call 43; go_must (refine (HU w1 _ m g1 (by have := LL.out; (try simp only [List.length_append, List.length_cons, List.length_nil]); omega) m1 (by omega)).out.mono ?_); rintro e wb ⟨rfl, gb, yb'⟩; have yb := y1.trans yb')
      | (go_at_call 41; go_must (refine (HV wb _ gb yb (by have := LL.out; (try simp only [List.length_append, List.length_cons, List.length_nil]); omega)).out.mono ?_); rintro e w2 ⟨rfl, g2, y2'⟩; have y2 := yb.trans y2')
      | (go_at_call 42; go_must (refine (HF w2 _ g2 (by have := LL.out; (try simp only [List.length_append, List.length_cons, List.length_nil]); omega)).out.mono ?_); rintro e w3 ⟨rfl, g3, y3⟩))
    go_end0
    exact ⟨rfl, by simpa [List.append_assoc] using g3, y2.trans y3⟩
end Go.Proofs.YtgkccbfepjgjoaaDoor

/- What a key's and a value's bytes are read as. -/
namespace Go.Proofs.YtgkccbfepjgjoaaDoor
open Go Go.RowKit

theorem chunks_flat (c : Nat) (hc : 1 ≤ c) : ∀ (f : Nat) (l : List Int), l.length ≤ f → (chunks c f l).flatten = l
  | 0, l, h => by
    obtain rfl : l = [] := List.eq_nil_of_length_eq_zero (by omega)
    rfl
  | f + 1, l, h => by
    unfold chunks
    by_cases e : l = []
    · subst e; simp
    · have hl : 0 < l.length := List.length_pos_iff.2 e
      rw [if_neg e, List.flatten_cons, chunks_flat c hc f (l.drop c) (by rw [List.length_drop]; omega), List.take_append_drop]
theorem chunks_len (c : Nat) (hc : 1 ≤ c) (hc2 : c ≤ 255) : ∀ (f : Nat) (l : List Int), ∀ x ∈ chunks c f l, 1 ≤ x.length ∧ x.length ≤ 255
  | 0, l => by simp [chunks]
  | f + 1, l => by
    unfold chunks
    by_cases e : l = []
    · rw [if_pos e]; simp
    · have hl : 0 < l.length := List.length_pos_iff.2 e
      rw [if_neg e]
      intro x hx
      rcases List.mem_cons.1 hx with rfl | hx
      · rw [List.length_take]; omega
      · exact chunks_len c hc hc2 f _ x hx
/-- A CLR is read as its bytes. -/
theorem clr_back (big : Bool) (c : Nat) (hc : 1 ≤ c) (hc2 : c ≤ 252) (l more : List Int) : Clr big (clrB big c l ++ more) (some (l, more)) := by
  unfold clrB
  split
  · rename_i h
    by_cases h0 : l.length = 0
    · obtain rfl : l = [] := List.eq_nil_of_length_eq_zero h0
      exact Clr.null (.inl rfl)
    · have := Clr.one (big := big) (t := l ++ more) (n := l.length) (by omega) h (by simp)
      simpa using this
  · have h1 := parts_all big more (chunks c l.length l) (chunks_len c hc (by omega) _ _)
    rw [chunks_flat c hc _ _ (Nat.le_refl _)] at h1
    have := Clr.parts h1
    simpa using this
theorem pk_back (u : Nat) (hu : u < 65536) (more : List Int) : PkShort (pkB u ++ more) ∧ rdPk (pkB u ++ more) = some ((u : Int), more) := by
  unfold pkB
  split
  · rename_i h; subst h
    exact ⟨by show (0 : Int) % 128 ≤ 8; decide, by simp [rdPk, pkV]⟩
  · split
    · have hw : wrap64 (u : Int) = u := by unfold wrap64; omega
      exact ⟨by show (1 : Int) % 128 ≤ 8; decide, by simp [rdPk, pkV, numV, Lib.beZ, Lib.beFromZ, hw]⟩
    · refine ⟨by show (2 : Int) % 128 ≤ 8; decide, ?_⟩
      have hw : wrap64 ((u : Int) / 256 * 256 + (u : Int) % 256) = u := by unfold wrap64; omega
      simp [rdPk, pkV, numV, Lib.beZ, Lib.beFromZ]
      first | exact hw | (rw [← hw]; congr 1; omega) | (unfold wrap64; omega)
theorem dlc_back (big : Bool) (c : Nat) (hc : 1 ≤ c) (hc2 : c ≤ 252) (l more : List Int) (hl : l.length ≤ 10000) : Dlc big (dlcB big c l ++ more) (some (l, more)) := by
  unfold dlcB
  by_cases h : l = []
  · subst h
    rw [if_pos rfl]
    exact Dlc.null (by show (0 : Int) % 128 ≤ 8; decide) (by simp [rdPk, pkV])
  · rw [if_neg h, List.append_assoc]
    have h0 : 0 < l.length := List.length_pos_iff.2 h
    obtain ⟨h1, h2⟩ := pk_back l.length (by omega) (clrB big c l ++ more)
    have := Dlc.some h1 h2 h0 (clr_back big c hc hc2 l more)
    simpa using this
end Go.Proofs.YtgkccbfepjgjoaaDoor
