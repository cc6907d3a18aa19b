/- A CLR of more than 252 bytes is written in parts. -/
import Derived.Test.YtgkccbfepjgjoaaDoorSeZc
import Derived.Test.YtgkccbfepjgjoaaDoorSePts
namespace Go.Proofs.YtgkccbfepjgjoaaDoor
open Go Go.RowKit

/-- Bytes in parts of at most c. -/
def chunks (c : Nat) : Nat → List Int → List (List Int)
  | 0, _ => []
  | f + 1, l => if l = [] then [] else l.take c :: chunks c f (l.drop c)
theorem row_one (m : Nat) (_h1 : 1 ≤ m) (h2 : m ≤ 255) : numB true 8 m = row8 7 [(m : Int)] := by
  simp [numB, row8, Lib.beBytes, Lib.leBytes, List.replicate]
  omega
theorem putHead (s : Nat) (big : Bool) (ch : Int) (xs : List Int) (m : Nat) (w : World) (hS : Sw w s big ch xs) (h1 : 1 ≤ m) (h2 : m ≤ 255) (hlim : xs.length ≤ 10000000000) :
    Calls Tryd.prog 42 #[.pointer (some ⟨s, 0, none⟩), .iface 3 (.int .i64 m), .int .u8 4, .bool true, .bool true] w (RetP w s big ch (xs ++ [1, (m : Int)])) :=
  putInt_pk_int s big ch xs m 7 (m : Int) [] w hS (by omega) (row_one m h1 h2) (by omega) rfl (by omega) hlim

set_option maxRecDepth 100000 in
set_option maxHeartbeats 4000000 in
theorem putClr_long (s : Nat) (big : Bool) (c : Nat) (xs l : List Int) (v : Value) (w : World) (hS : Sw w s big c xs) (hv : Rd w v l) (ha : Aside s w v) (hl : 252 < l.length) (hl2 : l.length ≤ 100000) (hc1 : 1 ≤ c) (hc2 : c ≤ 252) (hlim : xs.length ≤ 1000000000) :
    Calls Tryd.prog 41 #[.pointer (some ⟨s, 0, none⟩), v] w (RetP w s big c (xs ++ (254 :: (chunks c l.length l).flatMap (partB big) ++ [0]))) := by
  obtain ⟨b, o, cap, rfl, hcap, hcm, hat⟩ := hv.at' (by omega)
  obtain ⟨n, hn⟩ : ∃ n, l.length = n := ⟨_, rfl⟩
  have hcm2 : cap ≤ 9223372036854775807 := by simp only [maxLen] at hcm; omega
  have HB := Lib.hid (writeByte_sw s big c xs 254 w hS (by omega) (by omega))
  have HAT := Lib.hid hat
  have HASI := Lib.hid (ha ⟨b, o, none⟩ _ _ rfl)
  have HN := Lib.hid hn
  have hl3 := hn ▸ hl
  have hl4 := hn ▸ hl2
  have HL := Lib.hid hlim
  rw [hn] at hcap ⊢
  clear hS hv ha hl hl2 hat hcm hn hlim
  go_enter Tryd.func41, Tryd.ntmps41
  go_wp2_with (first | (go_at_call 75; go_must (refine HB.out.mono ?_); rintro e w1 ⟨rfl, h1, h2⟩; have HS1 := Lib.hid h1; have HX1 := Lib.hid h2; clear h1 h2))
  go_loopw [5] (fun iv wr => ∃ st f : Nat, iv = .int .i64 st ∧ n ≤ st + f ∧ st ≤ n + 252 ∧ ∃ pre, Sw wr s big c (xs ++ pre) ∧ pre ++ (chunks c f (l.drop st)).flatMap (partB big) = 254 :: (chunks c n l).flatMap (partB big) ∧ pre.length ≤ 1 + 3 * st ∧ Wx s w wr) (fun iv _ => n - (intOf iv).toNat)
  case atStart => exact ⟨0, n, rfl, by omega, by omega, [254], HS1.out, rfl, by simp, HX1.out⟩
  case round =>
    obtain ⟨st, f, rfl, hf, hst, pre, hsw, hpre, hpl, hwx⟩ := hrel
    by_cases e : st < n
    · obtain ⟨f', rfl⟩ : ∃ f', f = f' + 1 := ⟨f - 1, by omega⟩
      have hdl : (l.drop st).length = n - st := by rw [List.length_drop, HN.out]
      have hne : l.drop st ≠ [] := fun h => by rw [h] at hdl; simp at hdl; omega
      have hch : chunks c (f' + 1) (l.drop st) = (l.drop st).take c :: chunks c f' (l.drop (st + c)) := by simp [chunks, hne, List.drop_drop]
      obtain ⟨m, hm⟩ : ∃ m, min c (n - st) = m := ⟨_, rfl⟩
      have hm1 : 1 ≤ m := by omega
      have hm2 : m ≤ 252 := by omega
      have hm3 : st + m ≤ n := by omega
      have hmc : m ≤ c := by omega
      have hx : ((l.drop st).take c).length = m := by rw [List.length_take, hdl, hm]
      have hrx : Rd w (.slice (some ⟨b, o + st, none⟩) m (cap - st)) ((l.drop st).take c) := ((HAT.out.drop st).take c).rd hx (by omega) (by simp only [maxLen]; omega)
      have hax : Aside s w (.slice (some ⟨b, o + st, none⟩) m (cap - st)) := fun a' n' c' e => by
        injection e with e
        injection e with e
        subst e
        exact HASI.out
      rw [hch, List.flatMap_cons] at hpre
      generalize (l.drop st).take c = x at *
      have hlen : (xs ++ pre).length ≤ 2000000000 := by have := HL.out; rw [List.length_append]; omega
      have HX := Lib.hid hx
      have HWr := fun w5 ys (h : Sw w5 s big c ys) (hx5 : Wx s w w5) (hl5 : ys.length ≤ 3000000000) => Lib.hid (write_sw s big c ys x _ w5 h (hrx.wx hx5 hax) (hax.wx hx5) (by rw [HX.out]; omega))
      have HPRE := Lib.hid hpre
      have HWX := Lib.hid hwx
      have HLEN := Lib.hid hlen
      have HPL := Lib.hid hpl
      have HHI := fun hb : big = true => Lib.hid (putHead s big c (xs ++ pre) m wr hsw hm1 (by omega) (by omega))
      have HHB := Lib.hid (writeByte_sw s big c (xs ++ pre) m wr hsw (by omega) (by omega))
      have c5 := hsw.c5
      have c6 := hsw.c6
      have hslt := hsw.lt
      have hw : IntKind.i64.wrap ((st : Int) + (c : Int)) = (st : Int) + c := by rw [IntKind.wrap_i64]; omega
      have mw : IntKind.u8.wrap (m : Int) = m := by rw [IntKind.wrap_u8]; omega
      have hco : cutOff o cap st = o + st := by unfold cutOff; rw [if_neg (by omega)]
      have es : (st : Int) < n := by omega
      have done' : ∀ w6, Sw w6 s big c (xs ++ pre ++ (if big = true then [1, (m : Int)] else [(m : Int)]) ++ x) → Wx s wr w6 → ∃ pre', Sw w6 s big c (xs ++ pre') ∧ pre' ++ (chunks c f' (l.drop (st + c))).flatMap (partB big) = 254 :: (chunks c n l).flatMap (partB big) ∧ pre'.length ≤ 1 + 3 * (st + c) ∧ Wx s w w6 := by
        intro w6 h6 hx6
        refine ⟨pre ++ partB big x, ?_, ?_, ?_, HWX.out.trans hx6⟩
        · unfold partB; rw [HX.out, ← List.append_assoc, ← List.append_assoc]; exact h6
        · rw [List.append_assoc]; exact HPRE.out
        · have := HPL.out
          unfold partB
          rw [List.length_append, List.length_append, HX.out]
          split <;> simp <;> omega
      have DONE := Lib.hid done'
      clear hsw hwx hpre hpl hlen hx hrx hax hdl hne hch done'
      by_cases hA : st + c ≤ n
      · obtain rfl : m = c := by omega
        have hsl := fun W => run_cut2 (P := Tryd.prog) Go.Proofs.YtgkccbfepjgjoaaDoor.u8 b o n cap st m (st : Int) ((st : Int) + m) rfl rfl (by omega) W
        rw [hco] at hsl
        have eA : (st : Int) + m ≤ n := by omega
        clear hm hco
        cases big
        · go_wp2_with (first
            | (go_at_call 75; go_must (refine HHB.out.mono ?_); rintro e w5 ⟨rfl, h5, hx5⟩; have d6 := h5.c6)
            | (go_at_call 74; go_must (refine (HWr w5 _ h5 (HWX.out.trans hx5) (by have := HLEN.out; simp only [List.length_append, List.length_cons, List.length_nil] at this ⊢; omega)).out.mono ?_); rintro e w6 ⟨rfl, h6, hx6⟩; have d6 := h6.c6))
          go_roundw
          case rel => exact ⟨st + m, f', by go_num, by omega, by omega, DONE.out _ h6 (hx5.trans hx6)⟩
          case measure => simp [intOf]; omega
        · go_wp2_with (first
            | (go_at_call 42; go_must (refine (HHI rfl).out.mono ?_); rintro e w5 ⟨rfl, h5, hx5⟩; have d6 := h5.c6)
            | (go_at_call 74; go_must (refine (HWr w5 _ h5 (HWX.out.trans hx5) (by have := HLEN.out; simp only [List.length_append, List.length_cons, List.length_nil] at this ⊢; omega)).out.mono ?_); rintro e w6 ⟨rfl, h6, hx6⟩; have d6 := h6.c6))
          go_roundw
          case rel => exact ⟨st + m, f', by go_num, by omega, by omega, DONE.out _ h6 (hx5.trans hx6)⟩
          case measure => simp [intOf]; omega
      · have hsl := fun W => run_cut2 (P := Tryd.prog) Go.Proofs.YtgkccbfepjgjoaaDoor.u8 b o n cap st m (st : Int) (n : Int) rfl (by omega) (by omega) W
        rw [hco] at hsl
        have eA : (n : Int) < (st : Int) + c := by omega
        clear hm hco
        cases big
        · go_wp2_with (first
            | (go_at_call 75; go_must (refine HHB.out.mono ?_); rintro e w5 ⟨rfl, h5, hx5⟩; have d6 := h5.c6)
            | (go_at_call 74; go_must (refine (HWr w5 _ h5 (HWX.out.trans hx5) (by have := HLEN.out; simp only [List.length_append, List.length_cons, List.length_nil] at this ⊢; omega)).out.mono ?_); rintro e w6 ⟨rfl, h6, hx6⟩; have d6 := h6.c6))
          go_roundw
          case rel => exact ⟨st + c, f', by go_num, by omega, by omega, DONE.out _ h6 (hx5.trans hx6)⟩
          case measure => simp [intOf]; omega
        · go_wp2_with (first
            | (go_at_call 42; go_must (refine (HHI rfl).out.mono ?_); rintro e w5 ⟨rfl, h5, hx5⟩; have d6 := h5.c6)
            | (go_at_call 74; go_must (refine (HWr w5 _ h5 (HWX.out.trans hx5) (by have := HLEN.out; simp only [List.length_append, List.length_cons, List.length_nil] at this ⊢; omega)).out.mono ?_); rintro e w6 ⟨rfl, h6, hx6⟩; have d6 := h6.c6))
          go_roundw
          case rel => exact ⟨st + c, f', by go_num, by omega, by omega, DONE.out _ h6 (hx5.trans hx6)⟩
          case measure => simp [intOf]; omega
    · have hd : l.drop st = [] := List.drop_of_length_le (by rw [HN.out]; omega)
      rw [hd] at hpre
      have hch : (chunks c f []).flatMap (partB big) = [] := by cases f <;> simp [chunks]
      rw [hch, List.append_nil] at hpre
      have HB2 := Lib.hid (writeByte_sw s big c (xs ++ pre) 0 _ hsw (by omega) (by have := HL.out; rw [List.length_append]; omega))
      have HP := Lib.hid hpre
      have HW := Lib.hid hwx
      clear hsw hwx hd hch hpre
      go_wp2_with (first | (go_at_call 75; go_must (refine HB2.out.mono ?_); rintro e w5 ⟨rfl, h5, h6⟩))
      go_end0
      refine ⟨rfl, ?_, HW.out.trans h6⟩
      show Sw _ s big c (xs ++ ((254 :: (chunks c n l).flatMap (partB big)) ++ [0]))
      rw [← HP.out, ← List.append_assoc]
      exact h5
end Go.Proofs.YtgkccbfepjgjoaaDoor
