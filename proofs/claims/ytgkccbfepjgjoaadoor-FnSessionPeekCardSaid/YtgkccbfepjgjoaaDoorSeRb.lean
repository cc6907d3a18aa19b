/- The reference's reader: numbers. -/
import Derived.Test.YtgkccbfepjgjoaaDoorSeRa
import Derived.Test.YtgkccbfepjgjoaaDoorSeYc
namespace Go.Proofs.YtgkccbfepjgjoaaDoor
open Go Go.RowKit

set_option maxRecDepth 100000 in
/-- slices.Clone of bytes. -/
theorem slicesClone (v : Value) (xs : List Int) (w : World) (h : Rd w v xs) (hl : xs.length ≤ 140737488355328) :
    Calls Tryd.prog 56 #[v] w fun e w' => ∃ u, e = .returned u ∧ Own w.heap.size w' u xs ∧ Gr w w' := by
  have H := Lib.hid h
  obtain ⟨p, c, rfl, hc, hm, hp, hb, _⟩ := h
  cases p with
  | none =>
    obtain rfl := hp rfl
    obtain rfl : xs = [] := List.eq_nil_of_length_eq_zero (by omega)
    have q := fun W => Lib.run_eql_slice_nil_nil (P := Tryd.prog) W 0 0 Tryd.underlying24
    clear hb hp hc hm
    go_enter Tryd.func56, Tryd.ntmps56
    go_wp2_with fail
    go_ret
    exact ⟨_, rfl, Own.nil _ _, Gr.refl _⟩
  | some a =>
    have hO : Own w.heap.size (w.alloc (.cells #[] 5)) (.slice (some ⟨w.heap.size, 0, none⟩) 0 0) [] := ⟨⟨rfl, .inr ⟨w.heap.size, 0, #[], rfl, Nat.le_refl _, heap_alloc_new w _, Nat.le_refl _, Nat.zero_le _, rfl, rfl⟩⟩, fun _ h => by cases h⟩
    have HO := Lib.hid hO
    have HL := Lib.hid hl
    have q := fun W => Lib.run_eql_slice_some_nil (P := Tryd.prog) W a xs.length c Tryd.underlying24
    clear hO hl hb hp hm
    go_enter Tryd.func56, Tryd.ntmps56
    go_wp2_with (first | (at_builtin; go_must (refine wpList_append_gr Go.Proofs.YtgkccbfepjgjoaaDoor.u8 rfl _ _ rfl (w0 := w) ((Gr.refl w).alloc _) rfl HO.out rfl (H.out.gr ((Gr.refl w).alloc _)) (by have := HL.out; simpa using this) ?_); intro v5 w5 ho5 hG5; have HO5 := Lib.hid ho5; clear ho5))
    go_ret
    exact ⟨_, rfl, HO5.out, hG5⟩
theorem leZ_app (a b : List Int) : Lib.leZ (a ++ b) = Lib.leZ a + 256 ^ a.length * Lib.leZ b := by
  induction a with
  | nil => simp [Lib.leZ]
  | cons x t ih => rw [List.cons_append, Lib.leZ, Lib.leZ, ih, List.length_cons, Int.pow_succ, Int.mul_add, ← Int.mul_assoc, Int.mul_comm 256 (256 ^ t.length)]; omega
theorem beFromZ_le : ∀ (l : List Int) (a : Int), Lib.beFromZ a l = a * 256 ^ l.length + Lib.leZ l.reverse
  | [], a => by simp [Lib.beFromZ, Lib.leZ]
  | x :: l, a => by
    rw [Lib.beFromZ, beFromZ_le l, List.reverse_cons, leZ_app, List.length_reverse, List.length_cons, Int.pow_succ]
    have e : Lib.leZ [x] = x := by simp [Lib.leZ]
    rw [e, Int.add_mul, Int.mul_assoc, Int.mul_comm 256 (256 ^ l.length), Int.mul_comm x (256 ^ l.length)]
    omega
theorem beZ_le (l : List Int) : Lib.beZ l = Lib.leZ l.reverse := by
  unfold Lib.beZ
  rw [beFromZ_le]
  simp
theorem leZ_bd : ∀ (l : List Int), Byt l → 0 ≤ Lib.leZ l ∧ Lib.leZ l < 256 ^ l.length
  | [], _ => by simp [Lib.leZ]
  | x :: l, h => by
    have ih := leZ_bd l (fun y hy => h y (List.mem_cons_of_mem _ hy))
    have hx := h x (List.mem_cons_self ..)
    rw [Lib.leZ, List.length_cons, Int.pow_succ]
    omega
theorem or_shift (j : Nat) (hj : j < 8) (V x : Int) (hV : 0 ≤ V ∧ V < 256 ^ j) (hx : 0 ≤ x ∧ x < 256) : bits .or .u64 V (x * 256 ^ j) = V + x * 256 ^ j := by
  rcases (by omega : j = 0 ∨ j = 1 ∨ j = 2 ∨ j = 3 ∨ j = 4 ∨ j = 5 ∨ j = 6 ∨ j = 7) with rfl | rfl | rfl | rfl | rfl | rfl | rfl | rfl
  · have e : (256 : Int) ^ 0 = 1 := by decide
    rw [e] at hV ⊢
    exact bits_join_low .u64 64 (by decide) wraps_u64 0 V (x * 1) (by omega) (by omega) (by omega) (by omega) (by omega) (by omega)
  · have e : (256 : Int) ^ 1 = 256 := by decide
    rw [e] at hV ⊢
    exact bits_join_low .u64 64 (by decide) wraps_u64 8 V (x * 256) (by omega) (by omega) (by omega) (by omega) (by omega) (by omega)
  · have e : (256 : Int) ^ 2 = 65536 := by decide
    rw [e] at hV ⊢
    exact bits_join_low .u64 64 (by decide) wraps_u64 16 V (x * 65536) (by omega) (by omega) (by omega) (by omega) (by omega) (by omega)
  · have e : (256 : Int) ^ 3 = 16777216 := by decide
    rw [e] at hV ⊢
    exact bits_join_low .u64 64 (by decide) wraps_u64 24 V (x * 16777216) (by omega) (by omega) (by omega) (by omega) (by omega) (by omega)
  · have e : (256 : Int) ^ 4 = 4294967296 := by decide
    rw [e] at hV ⊢
    exact bits_join_low .u64 64 (by decide) wraps_u64 32 V (x * 4294967296) (by omega) (by omega) (by omega) (by omega) (by omega) (by omega)
  · have e : (256 : Int) ^ 5 = 1099511627776 := by decide
    rw [e] at hV ⊢
    exact bits_join_low .u64 64 (by decide) wraps_u64 40 V (x * 1099511627776) (by omega) (by omega) (by omega) (by omega) (by omega) (by omega)
  · have e : (256 : Int) ^ 6 = 281474976710656 := by decide
    rw [e] at hV ⊢
    exact bits_join_low .u64 64 (by decide) wraps_u64 48 V (x * 281474976710656) (by omega) (by omega) (by omega) (by omega) (by omega) (by omega)
  · have e : (256 : Int) ^ 7 = 72057594037927936 := by decide
    rw [e] at hV ⊢
    exact bits_join_low .u64 64 (by decide) wraps_u64 56 V (x * 72057594037927936) (by omega) (by omega) (by omega) (by omega) (by omega) (by omega)

/-- slices.Reverse of nothing. -/
theorem reverse_none (p : Option Addr) (c : Nat) (w : World) : Calls Tryd.prog 22 #[.slice p 0 c] w fun e w' => e = .returned (.tuple #[]) ∧ w = w' := by
  go_enter Tryd.func22, Tryd.ntmps22
  go_wp2
  go_loop [2, 3] (fun i j => i = .int .i64 0 ∧ j = .int .i64 (-1)) (fun _ _ => 0)
  case atStart => exact ⟨rfl, rfl⟩
  case round =>
    obtain ⟨rfl, rfl⟩ := hrel
    go_wp2
    go_end0
    exact ⟨rfl, rfl⟩

def RetU (w : World) (r : Nat) (z : Int) (xs : List Int) (e : Ending) (w' : World) : Prop := e = .returned (.int .u64 z) ∧ Sx w' r xs false false ∧ Fk r w w'
/-- The number that bytes spell. -/
def numU (be : Bool) (l : List Int) : Int := if be = true then Lib.beZ l else Lib.leZ l

set_option maxRecDepth 100000 in
theorem num_zero (r : Nat) (xs : List Int) (be : Bool) (w : World) (h : Sx w r xs false false) :
    Calls Tryd.prog 54 #[.pointer (some ⟨r, 0, none⟩), .int .i64 0, .bool be] w (RetU w r 0 xs) := by
  have HT := Lib.hid (take_ok r xs 0 w h (Nat.zero_le _))
  rw [List.take_zero, List.drop_zero] at HT
  have hrw : r < w.heap.size := h.lt
  clear h
  cases be
  all_goals
    go_enter Tryd.func54, Tryd.ntmps54
    go_wp2_with (first
      | (go_at_call 50; go_must (refine HT.out.mono ?_); rintro e w1 ⟨u1, rfl, hr1, ho1, _, _, hs1, hf1⟩)
      | (go_at_call 56; go_must (refine (slicesClone u1 [] w1 hr1 (by simp)).mono ?_); rintro e w2 ⟨u2, rfl, ho2, hg2⟩; have hf2 := hf1.trans (Fk.of_gr hg2 hs1.lt); obtain ⟨p2, c2, rfl, _⟩ := id ho2.rd)
      | (go_at_call 22; go_must (refine (reverse_none _ _ _).mono ?_); rintro e w3 ⟨rfl, rfl⟩))
    go_loop [20, 8] (fun i o => i = .int .i64 0 ∧ o = .int .u64 0) (fun _ _ => 0)
    case atStart => exact ⟨rfl, rfl⟩
    case round =>
      obtain ⟨rfl, rfl⟩ := hrel
      go_wp2
      go_ret
      exact ⟨rfl, hs1.gr hg2, hf2⟩

set_option maxRecDepth 100000 in
set_option maxHeartbeats 1000000 in
theorem number_ok (r : Nat) (xs : List Int) (n : Nat) (be : Bool) (w : World) (h : Sx w r xs false false) (h1 : 1 ≤ n) (h8 : n ≤ 8) (hn : n ≤ xs.length) :
    Calls Tryd.prog 54 #[.pointer (some ⟨r, 0, none⟩), .int .i64 (n : Nat), .bool be] w (RetU w r (numU be (xs.take n)) (xs.drop n)) := by
  have HT := Lib.hid (take_ok r xs n w h hn)
  obtain ⟨l, hl⟩ : ∃ l, xs.take n = l := ⟨_, rfl⟩
  have hll : l.length = n := by rw [← hl, List.length_take]; omega
  rw [hl] at HT ⊢
  generalize xs.drop n = q at *
  have hn0 : 0 < n := by omega
  clear hl h hn
  obtain ⟨L, hL⟩ : ∃ L, (if be = true then l.reverse else l) = L := ⟨_, rfl⟩
  have hLl : L.length = n := by rw [← hL]; split <;> simp [hll]
  have hnum : numU be l = Lib.leZ L := by
    rw [← hL]
    unfold numU
    cases be
    · rfl
    · exact beZ_le l
  rw [hnum]
  have HLL := Lib.hid hLl
  have HLN := Lib.hid hll
  have HLE := Lib.hid hL
  clear hLl hll hnum hL
  cases be
  all_goals
    go_enter Tryd.func54, Tryd.ntmps54
    go_wp2_with (first
      | (go_at_call 50; go_must (refine HT.out.mono ?_); rintro e w1 ⟨u1, rfl, hr1, ho1, _, _, hs1, hf1⟩)
      | (go_at_call 56; go_must (refine (slicesClone u1 l w1 hr1 (by have := HLN.out; omega)).mono ?_); rintro e w2 ⟨u2, rfl, ho2, hg2⟩; obtain ⟨g2, c2, hv2, hB2, hoat⟩ := ho2.form (by rw [HLN.out]; exact hn0); rw [HLN.out] at hv2; subst hv2; have hG3 := hg2; have hoat3 := hoat)
      | (go_at_call 22; go_must (refine (reverse_all l n w1 w2 g2 c2 hoat HLN.out hn0 (by omega) hg2 hB2).mono ?_); rintro e w3 ⟨rfl, hoat3, hG3⟩))
    have hL : OwnAt _ g2 c2 L := (by rw [← HLE.out]; exact hoat3)
    have hf3 := hf1.trans (Fk.of_gr hG3 hs1.lt)
    have hs3 := hs1.gr hG3
    have hc2 := hL.2.1
    have hcm := hL.2.2.1
    rw [HLL.out] at hc2
    have hcm2 : c2 ≤ 9223372036854775807 := by simp only [maxLen] at hcm; omega
    have HL := Lib.hid hL
    have HF := Lib.hid hf3
    have HS := Lib.hid hs3
    clear hL hoat3 hoat hf3 hs3 hG3 hcm hf1 hs1 ho1 hr1 ho2
    go_loop [20, 8] (fun i o => ∃ j : Nat, i = .int .i64 j ∧ j ≤ n ∧ o = .int .u64 (Lib.leZ (L.take j))) (fun i _ => ((n : Int) - intOf i).toNat)
    case atStart => exact ⟨0, rfl, Nat.zero_le _, by simp [Lib.leZ]⟩
    case round =>
      obtain ⟨j, rfl, hj, rfl⟩ := hrel
      by_cases e : j < n
      · have hjl : j < L.length := by rw [HLL.out]; exact e
        have hc := HL.out.cell j hjl
        have hb := HL.out.byt _ (List.getElem_mem hjl)
        have hgd : L.getD j 0 = L[j] := by simp [List.getD_eq_getElem?_getD, hjl]
        rw [hgd] at hc
        have hbt : Byt (L.take j) := fun y hy => HL.out.byt y (List.mem_of_mem_take hy)
        have hV := leZ_bd _ hbt
        have hst : Lib.leZ (L.take (j + 1)) = Lib.leZ (L.take j) + L[j] * 256 ^ j := by
          rw [List.take_succ_eq_append_getElem hjl, leZ_app, List.length_take, Nat.min_eq_left (by omega)]
          simp [Lib.leZ, Int.mul_comm]
        rw [List.length_take, Nat.min_eq_left (by omega)] at hV
        generalize L[j] = x at *
        obtain ⟨V, hVe⟩ : ∃ V, Lib.leZ (L.take j) = V := ⟨_, rfl⟩
        rw [hVe] at hV hst ⊢
        have hor := or_shift j (by omega) V x hV hb
        have HST := Lib.hid hst
        clear hgd hbt hst hVe
        rcases (by omega : j = 0 ∨ j = 1 ∨ j = 2 ∨ j = 3 ∨ j = 4 ∨ j = 5 ∨ j = 6 ∨ j = 7) with rfl | rfl | rfl | rfl | rfl | rfl | rfl | rfl
        all_goals
          simp at hor hV hc
          go_wp2
          go_round
          case rel => first | (exact ⟨1, rfl, by omega, by rw [show Lib.leZ (L.take 1) = _ from HST.out]; first | rfl | (congr 1; omega)⟩) | (exact ⟨2, rfl, by omega, by rw [show Lib.leZ (L.take 2) = _ from HST.out]; first | rfl | (congr 1; omega)⟩) | (exact ⟨3, rfl, by omega, by rw [show Lib.leZ (L.take 3) = _ from HST.out]; first | rfl | (congr 1; omega)⟩) | (exact ⟨4, rfl, by omega, by rw [show Lib.leZ (L.take 4) = _ from HST.out]; first | rfl | (congr 1; omega)⟩) | (exact ⟨5, rfl, by omega, by rw [show Lib.leZ (L.take 5) = _ from HST.out]; first | rfl | (congr 1; omega)⟩) | (exact ⟨6, rfl, by omega, by rw [show Lib.leZ (L.take 6) = _ from HST.out]; first | rfl | (congr 1; omega)⟩) | (exact ⟨7, rfl, by omega, by rw [show Lib.leZ (L.take 7) = _ from HST.out]; first | rfl | (congr 1; omega)⟩) | (exact ⟨8, rfl, by omega, by rw [show Lib.leZ (L.take 8) = _ from HST.out]; first | rfl | (congr 1; omega)⟩)
          case measure => simp [intOf]; omega
      · obtain rfl : n = j := by omega
        rw [List.take_of_length_le (by rw [HLL.out]; exact Nat.le_refl _)]
        go_wp2
        go_ret
        exact ⟨rfl, HS.out, HF.out⟩
end Go.Proofs.YtgkccbfepjgjoaaDoor
