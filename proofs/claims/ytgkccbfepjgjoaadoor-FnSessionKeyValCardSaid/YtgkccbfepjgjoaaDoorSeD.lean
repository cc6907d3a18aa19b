/- A session's readers of numbers, in their other cases. Printed by gen_sed.py. -/
import Derived.Test.YtgkccbfepjgjoaaDoorSeC
namespace Go.Proofs.YtgkccbfepjgjoaaDoor
open Go Go.RowKit

theorem and_lo : ∀ b : Fin 128, bits .and .i64 (b.val : Int) 128 = 0 := by decide +kernel
theorem and_hi : ∀ b : Fin 128, bits .and .i64 ((b.val : Int) + 128) 128 = 128 ∧ bits .and .i64 ((b.val : Int) + 128) 127 = (b.val : Int) := by decide +kernel
theorem and128_lo (b : Int) (h0 : 0 ≤ b) (h1 : b < 128) : bits .and .i64 b 128 = 0 := by
  have := and_lo ⟨b.toNat, by omega⟩
  rwa [Int.toNat_of_nonneg h0] at this
theorem and128_hi (b : Int) (h0 : 128 ≤ b) (h1 : b < 256) : bits .and .i64 b 128 = 128 ∧ bits .and .i64 b 127 = b - 128 := by
  have := and_hi ⟨(b - 128).toNat, by omega⟩
  simp only [Int.toNat_of_nonneg (show 0 ≤ b - 128 by omega)] at this
  rwa [show b - 128 + 128 = b by omega] at this

/-- A compressed number's value: behind its first byte. -/
def pkV (b : Int) (l : List Int) : Int := if b % 128 = 0 then 0 else if 128 ≤ b then wrap64 (-numV true l) else numV true l

set_option maxRecDepth 100000 in
/-- A number of n bytes, the least significant one first. -/
theorem int64_le (s : Nat) (big : Bool) (ch : Int) (E : Value) (r : List Int) (n : Nat) (w : World) (h : Ss w s big ch E r) (h1 : 1 ≤ n) (h8 : n ≤ 8) (hn : n ≤ r.length) :
    Calls Tryd.prog 68 #[.pointer (some ⟨s, 0, none⟩), .int .i64 n, .bool false, .bool false] w (RetV w s big ch E (.int .i64 (numV false (r.take n))) (r.drop n)) := by
  have hbyt : Byt (r.take n) := fun x hx => h.byt x (List.mem_of_mem_take hx)
  have H := Lib.hid (rdS_ok s big ch E r n w h hn)
  have hlen : (r.take n).length = n := by rw [List.length_take]; omega
  have hv : numV false (r.take n) = wrap64 (Lib.leZ ((tempL false (r.take n)).take 8)) := by rw [temp_le _ (by omega)]; rfl
  have hsp := splice_le (r.take n) (by omega)
  have htl := tempL_length false (r.take n) (by omega)
  have htb := tempL_byt false hbyt
  rw [hv]
  generalize r.take n = l at *
  generalize r.drop n = r' at *
  generalize tempL false l = tl at *
  have HSP := Lib.hid hsp
  have HLEN := Lib.hid hlen
  have HTL := Lib.hid htl
  clear h hv hsp hlen htl
  have i1 : (1 : Int) ≤ n := by omega
  have i8 : (n : Int) ≤ 8 := by omega
  go_enter Tryd.func68, Tryd.ntmps68
  go_wp2_with (first
    | (go_at_call 85; go_must (refine H.out.mono ?_); rintro e w1 ⟨u, rfl, hu, ho, hs, hf⟩; obtain ⟨ub, uo, uc, hu1, huc, hum, hat⟩ := hu.at' (by rw [HLEN.out]; omega); rw [HLEN.out] at hu1; subst hu1)
    | (at_make; go_must (refine wpList_make_gr Go.Proofs.YtgkccbfepjgjoaaDoor.u8 rfl _ _ rfl (Gr.refl w1) .i64 .i64 8 8 8 rfl rfl rfl rfl (by omega) _ rfl ?_); intro w2 ho2 hg2 hg2' hb2; obtain ⟨w3, hcp, hk3, hg3⟩ := copy8 w1 w2 w1.heap.size (0) n 8 uc ub uo (List.replicate 8 0) l 3 hg2' (Nat.le_refl _) (ownAt_cur (xs := List.replicate 8 0) ho2) (hat.gr hg2) HLEN.out (by simp; omega); rw [HSP.out] at hk3; have hat3 := rdAt_of_heap hk3 htb))
  go_wp2_with (first
    | (go_at_call 87; go_must (refine (Tryd.binary_LE_Uint64_z ⟨w1.heap.size, 0, none⟩ 8 8 tl w3 (Nat.le_refl _) (by rw [HTL.out]; exact Nat.le_refl _) (fun i hi => by rw [Lib.addr_add]; exact hat3.cell i hi) (wf_byt htb)).mono ?_); rintro e w4 ⟨rfl, hg4⟩))
  go_ret2
  have hg := hg3.trans hg4
  exact ⟨rfl, hs.gr hg, hf.trans (Fx.of_gr hg)⟩

theorem int64_no (s : Nat) (big : Bool) (ch : Int) (E : Value) (r : List Int) (n : Nat) (be : Bool) (w : World) (h : Ss w s big ch E r) (h1 : 1 ≤ n) (h8 : n ≤ 8) (hn : r.length < n) :
    Calls Tryd.prog 68 #[.pointer (some ⟨s, 0, none⟩), .int .i64 n, .bool false, .bool be] w (RetNo w s big ch E (.int .i64 0)) := by
  have H := Lib.hid (rdS_no s big ch E r n w h hn (by omega))
  obtain ⟨T, p, rfl⟩ := h.err
  have i1 : (1 : Int) ≤ n := by omega
  have i8 : (n : Int) ≤ 8 := by omega
  clear h hn
  go_enter Tryd.func68, Tryd.ntmps68
  go_wp2_with (first
    | (go_at_call 85; go_must (refine H.out.mono ?_); rintro e w1 ⟨rfl, hs, hf⟩))
  go_ret2
  exact ⟨rfl, hs, hf⟩

theorem int64_pk_no (s : Nat) (big : Bool) (ch : Int) (E : Value) (n : Int) (be : Bool) (w : World) (h : Ss w s big ch E []) :
    Calls Tryd.prog 68 #[.pointer (some ⟨s, 0, none⟩), .int .i64 n, .bool true, .bool be] w (RetNo w s big ch E (.int .i64 0)) := by
  have H := Lib.hid (rdS_no s big ch E [] 1 w h (by simp) (by omega))
  obtain ⟨T, p, rfl⟩ := h.err
  clear h
  go_enter Tryd.func68, Tryd.ntmps68
  go_wp2_with (first
    | (go_at_call 85; go_must (refine H.out.mono ?_); rintro e w1 ⟨rfl, hs, hf⟩))
  go_ret2
  exact ⟨rfl, hs, hf⟩

theorem pk_zero_lo (s : Nat) (big : Bool) (ch : Int) (E : Value) (n : Int) (be : Bool) (b : Int) (r : List Int) (w : World) (h : Ss w s big ch E (b :: r)) (h0 : 0 ≤ b) (hb : b < 128) (hk : b = 0) :
    Calls Tryd.prog 68 #[.pointer (some ⟨s, 0, none⟩), .int .i64 n, .bool true, .bool be] w (RetV w s big ch E (.int .i64 0) r) := by
  have ha := and128_lo b h0 hb
  have H1 := Lib.hid (show Calls Tryd.prog 85 #[.pointer (some ⟨s, 0, none⟩), .int .i64 1] w (RetOk w s big ch E [b] r) from rdS_ok s big ch E (b :: r) 1 w h (by simp))
  obtain rfl : b = 0 := by omega
  clear h
  go_enter Tryd.func68, Tryd.ntmps68
  go_wp2_with (first
    | (go_at_call 85; go_must (with_reducible refine H1.out.mono ?_); rintro e w0 ⟨u0, rfl, hu0, ho0, hs0, hf0⟩; obtain ⟨b1, o1, c1, rfl, hc1, hm1, k0⟩ := rd_one hu0; clear H1))
  go_ret2
  exact ⟨rfl, hs0, hf0⟩

set_option maxRecDepth 100000 in
theorem pk_short_lo (s : Nat) (big : Bool) (ch : Int) (E : Value) (n : Int) (be : Bool) (b : Int) (r : List Int) (w : World) (h : Ss w s big ch E (b :: r)) (h0 : 0 ≤ b) (hb : b < 128) (m : Nat) (hk : b = (m : Int)) (h1 : 1 ≤ m) (hr : r.length < m) :
    Calls Tryd.prog 68 #[.pointer (some ⟨s, 0, none⟩), .int .i64 n, .bool true, .bool be] w (RetNo w s big ch E (.int .i64 0)) := by
  have ha := and128_lo b h0 hb
  have H1 := Lib.hid (show Calls Tryd.prog 85 #[.pointer (some ⟨s, 0, none⟩), .int .i64 1] w (RetOk w s big ch E [b] r) from rdS_ok s big ch E (b :: r) 1 w h (by simp))
  have H := fun w0 hs0 => Lib.hid (rdS_no s big ch E r m w0 hs0 hr (by omega))
  obtain ⟨T, p, rfl⟩ := h.err
  obtain rfl : b = (m : Int) := by omega
  clear h hr
  have i1 : (1 : Int) ≤ m := by omega
  have i8 : (m : Int) ≤ 128 := by omega
  go_enter Tryd.func68, Tryd.ntmps68
  go_wp2_with (first
    | (go_at_call 85; refine (H _ hs0).out.mono ?_; rintro e w1 ⟨rfl, hs, hf⟩)
    | (go_at_call 85; go_must (with_reducible refine H1.out.mono ?_); rintro e w0 ⟨u0, rfl, hu0, ho0, hs0, hf0⟩; obtain ⟨b1, o1, c1, rfl, hc1, hm1, k0⟩ := rd_one hu0; clear H1))
  go_ret2
  exact ⟨rfl, hs, hf0.trans hf⟩

set_option maxRecDepth 100000 in
theorem pk_ok_lo (s : Nat) (big : Bool) (ch : Int) (E : Value) (n : Int) (be : Bool) (b : Int) (r : List Int) (w : World) (h : Ss w s big ch E (b :: r)) (h0 : 0 ≤ b) (hb : b < 128) (m : Nat) (hk : b = (m : Int)) (h1 : 1 ≤ m) (h8 : m ≤ 8) (hr : m ≤ r.length) :
    Calls Tryd.prog 68 #[.pointer (some ⟨s, 0, none⟩), .int .i64 n, .bool true, .bool be] w (RetV w s big ch E (.int .i64 (numV true (r.take m))) (r.drop m)) := by
  have ha := and128_lo b h0 hb
  have hbyt : Byt (r.take m) := fun x hx => h.byt x (List.mem_cons_of_mem _ (List.mem_of_mem_take hx))
  have H1 := Lib.hid (show Calls Tryd.prog 85 #[.pointer (some ⟨s, 0, none⟩), .int .i64 1] w (RetOk w s big ch E [b] r) from rdS_ok s big ch E (b :: r) 1 w h (by simp))
  have H := fun w0 hs0 => Lib.hid (rdS_ok s big ch E r m w0 hs0 hr)
  have hlen : (r.take m).length = m := by rw [List.length_take]; omega
  have hv : numV true (r.take m) = wrap64 (Lib.beZ ((tempL true (r.take m)).take 8)) := by rw [temp_be _ (by omega)]; rfl
  have hsp := splice_be (r.take m) (by omega)
  have htl := tempL_length true (r.take m) (by omega)
  have htb := tempL_byt true hbyt
  rw [hlen] at hsp
  have hsl := fun (b : Nat) (w : World) => run_cut1 (P := Tryd.prog) u8 b 0 8 8 (8 - m) (8 - (m : Int)) (by omega) (by omega) w
  have hco : cutOff 0 8 (8 - m) = 8 - m := by unfold cutOff; rw [if_neg (by omega)]; omega
  rw [hco, show 8 - (8 - m) = m by omega] at hsl
  rw [hv]
  generalize r.take m = l at *
  generalize r.drop m = r' at *
  generalize tempL true l = tl at *
  have HSP := Lib.hid hsp
  have HLEN := Lib.hid hlen
  have HTL := Lib.hid htl
  obtain rfl : b = (m : Int) := by omega
  clear h hv hco hsp hlen htl hr
  have i1 : (1 : Int) ≤ m := by omega
  have i8 : (m : Int) ≤ 8 := by omega
  go_enter Tryd.func68, Tryd.ntmps68
  go_wp2_with (first
    | (go_at_call 85; refine (H _ hs0).out.mono ?_; rintro e w1 ⟨u, rfl, hu, ho, hs, hf⟩; obtain ⟨ub, uo, uc, hu1, huc, hum, hat⟩ := hu.at' (by rw [HLEN.out]; omega); rw [HLEN.out] at hu1; subst hu1)
    | (go_at_call 85; go_must (with_reducible refine H1.out.mono ?_); rintro e w0 ⟨u0, rfl, hu0, ho0, hs0, hf0⟩; obtain ⟨b1, o1, c1, rfl, hc1, hm1, k0⟩ := rd_one hu0; clear H1)
    | (at_make; go_must (refine wpList_make_gr Go.Proofs.YtgkccbfepjgjoaaDoor.u8 rfl _ _ rfl (Gr.refl w1) .i64 .i64 8 8 8 rfl rfl rfl rfl (by omega) _ rfl ?_); intro w2 ho2 hg2 hg2' hb2; obtain ⟨w3, hcp, hk3, hg3⟩ := copy8 w1 w2 w1.heap.size (8 - m) m m uc ub uo (List.replicate 8 0) l 3 hg2' (Nat.le_refl _) (ownAt_cur (xs := List.replicate 8 0) ho2) (hat.gr hg2) HLEN.out (by simp; omega); rw [HSP.out] at hk3; have hat3 := rdAt_of_heap hk3 htb))
  go_wp2_with (first
    | (go_at_call 86; go_must (refine (Tryd.binary_BE_Uint64_z ⟨w1.heap.size, 0, none⟩ 8 8 tl w3 (Nat.le_refl _) (by rw [HTL.out]; exact Nat.le_refl _) (fun i hi => by rw [Lib.addr_add]; exact hat3.cell i hi) (wf_byt htb)).mono ?_); rintro e w4 ⟨rfl, hg4⟩))
  go_ret2
  have hg := hg3.trans hg4
  exact ⟨rfl, hs.gr hg, hf0.trans (hf.trans (Fx.of_gr hg))⟩

theorem pk_zero_hi (s : Nat) (big : Bool) (ch : Int) (E : Value) (n : Int) (be : Bool) (b : Int) (r : List Int) (w : World) (h : Ss w s big ch E (b :: r)) (hb : 128 ≤ b) (h1' : b < 256) (hk : b - 128 = 0) :
    Calls Tryd.prog 68 #[.pointer (some ⟨s, 0, none⟩), .int .i64 n, .bool true, .bool be] w (RetV w s big ch E (.int .i64 0) r) := by
  have h0 : 0 ≤ b := by omega
  obtain ⟨ha, ha2⟩ := and128_hi b hb h1'
  have H1 := Lib.hid (show Calls Tryd.prog 85 #[.pointer (some ⟨s, 0, none⟩), .int .i64 1] w (RetOk w s big ch E [b] r) from rdS_ok s big ch E (b :: r) 1 w h (by simp))
  obtain rfl : b = 128 := by omega
  clear h
  go_enter Tryd.func68, Tryd.ntmps68
  go_wp2_with (first
    | (go_at_call 85; go_must (with_reducible refine H1.out.mono ?_); rintro e w0 ⟨u0, rfl, hu0, ho0, hs0, hf0⟩; obtain ⟨b1, o1, c1, rfl, hc1, hm1, k0⟩ := rd_one hu0; clear H1))
  go_ret2
  exact ⟨rfl, hs0, hf0⟩

set_option maxRecDepth 100000 in
theorem pk_short_hi (s : Nat) (big : Bool) (ch : Int) (E : Value) (n : Int) (be : Bool) (b : Int) (r : List Int) (w : World) (h : Ss w s big ch E (b :: r)) (hb : 128 ≤ b) (h1' : b < 256) (m : Nat) (hk : b - 128 = (m : Int)) (h1 : 1 ≤ m) (hr : r.length < m) :
    Calls Tryd.prog 68 #[.pointer (some ⟨s, 0, none⟩), .int .i64 n, .bool true, .bool be] w (RetNo w s big ch E (.int .i64 0)) := by
  have h0 : 0 ≤ b := by omega
  obtain ⟨ha, ha2⟩ := and128_hi b hb h1'
  have H1 := Lib.hid (show Calls Tryd.prog 85 #[.pointer (some ⟨s, 0, none⟩), .int .i64 1] w (RetOk w s big ch E [b] r) from rdS_ok s big ch E (b :: r) 1 w h (by simp))
  have H := fun w0 hs0 => Lib.hid (rdS_no s big ch E r m w0 hs0 hr (by omega))
  obtain ⟨T, p, rfl⟩ := h.err
  obtain rfl : b = (m : Int) + 128 := by omega
  clear h hr
  have i1 : (1 : Int) ≤ m := by omega
  have i8 : (m : Int) ≤ 128 := by omega
  go_enter Tryd.func68, Tryd.ntmps68
  go_wp2_with (first
    | (go_at_call 85; refine (H _ hs0).out.mono ?_; rintro e w1 ⟨rfl, hs, hf⟩)
    | (go_at_call 85; go_must (with_reducible refine H1.out.mono ?_); rintro e w0 ⟨u0, rfl, hu0, ho0, hs0, hf0⟩; obtain ⟨b1, o1, c1, rfl, hc1, hm1, k0⟩ := rd_one hu0; clear H1))
  go_ret2
  exact ⟨rfl, hs, hf0.trans hf⟩

set_option maxRecDepth 100000 in
theorem pk_ok_hi (s : Nat) (big : Bool) (ch : Int) (E : Value) (n : Int) (be : Bool) (b : Int) (r : List Int) (w : World) (h : Ss w s big ch E (b :: r)) (hb : 128 ≤ b) (h1' : b < 256) (m : Nat) (hk : b - 128 = (m : Int)) (h1 : 1 ≤ m) (h8 : m ≤ 8) (hr : m ≤ r.length) :
    Calls Tryd.prog 68 #[.pointer (some ⟨s, 0, none⟩), .int .i64 n, .bool true, .bool be] w (RetV w s big ch E (.int .i64 (wrap64 (-numV true (r.take m)))) (r.drop m)) := by
  have h0 : 0 ≤ b := by omega
  obtain ⟨ha, ha2⟩ := and128_hi b hb h1'
  have hbyt : Byt (r.take m) := fun x hx => h.byt x (List.mem_cons_of_mem _ (List.mem_of_mem_take hx))
  have H1 := Lib.hid (show Calls Tryd.prog 85 #[.pointer (some ⟨s, 0, none⟩), .int .i64 1] w (RetOk w s big ch E [b] r) from rdS_ok s big ch E (b :: r) 1 w h (by simp))
  have H := fun w0 hs0 => Lib.hid (rdS_ok s big ch E r m w0 hs0 hr)
  have hlen : (r.take m).length = m := by rw [List.length_take]; omega
  have hv : numV true (r.take m) = wrap64 (Lib.beZ ((tempL true (r.take m)).take 8)) := by rw [temp_be _ (by omega)]; rfl
  have hsp := splice_be (r.take m) (by omega)
  have htl := tempL_length true (r.take m) (by omega)
  have htb := tempL_byt true hbyt
  rw [hlen] at hsp
  have hsl := fun (b : Nat) (w : World) => run_cut1 (P := Tryd.prog) u8 b 0 8 8 (8 - m) (8 - (m : Int)) (by omega) (by omega) w
  have hco : cutOff 0 8 (8 - m) = 8 - m := by unfold cutOff; rw [if_neg (by omega)]; omega
  rw [hco, show 8 - (8 - m) = m by omega] at hsl
  rw [hv]
  generalize r.take m = l at *
  generalize r.drop m = r' at *
  generalize tempL true l = tl at *
  have HSP := Lib.hid hsp
  have HLEN := Lib.hid hlen
  have HTL := Lib.hid htl
  obtain rfl : b = (m : Int) + 128 := by omega
  clear h hv hco hsp hlen htl hr
  have i1 : (1 : Int) ≤ m := by omega
  have i8 : (m : Int) ≤ 8 := by omega
  go_enter Tryd.func68, Tryd.ntmps68
  go_wp2_with (first
    | (go_at_call 85; refine (H _ hs0).out.mono ?_; rintro e w1 ⟨u, rfl, hu, ho, hs, hf⟩; obtain ⟨ub, uo, uc, hu1, huc, hum, hat⟩ := hu.at' (by rw [HLEN.out]; omega); rw [HLEN.out] at hu1; subst hu1)
    | (go_at_call 85; go_must (with_reducible refine H1.out.mono ?_); rintro e w0 ⟨u0, rfl, hu0, ho0, hs0, hf0⟩; obtain ⟨b1, o1, c1, rfl, hc1, hm1, k0⟩ := rd_one hu0; clear H1)
    | (at_make; go_must (refine wpList_make_gr Go.Proofs.YtgkccbfepjgjoaaDoor.u8 rfl _ _ rfl (Gr.refl w1) .i64 .i64 8 8 8 rfl rfl rfl rfl (by omega) _ rfl ?_); intro w2 ho2 hg2 hg2' hb2; obtain ⟨w3, hcp, hk3, hg3⟩ := copy8 w1 w2 w1.heap.size (8 - m) m m uc ub uo (List.replicate 8 0) l 3 hg2' (Nat.le_refl _) (ownAt_cur (xs := List.replicate 8 0) ho2) (hat.gr hg2) HLEN.out (by simp; omega); rw [HSP.out] at hk3; have hat3 := rdAt_of_heap hk3 htb))
  go_wp2_with (first
    | (go_at_call 86; go_must (refine (Tryd.binary_BE_Uint64_z ⟨w1.heap.size, 0, none⟩ 8 8 tl w3 (Nat.le_refl _) (by rw [HTL.out]; exact Nat.le_refl _) (fun i hi => by rw [Lib.addr_add]; exact hat3.cell i hi) (wf_byt htb)).mono ?_); rintro e w4 ⟨rfl, hg4⟩))
  go_ret2
  have hg := hg3.trans hg4
  exact ⟨rfl, hs.gr hg, hf0.trans (hf.trans (Fx.of_gr hg))⟩

end Go.Proofs.YtgkccbfepjgjoaaDoor
