/- A session's reader of a text that ends with a 0. -/
import Derived.Test.YtgkccbfepjgjoaaDoorSeI
namespace Go.Proofs.YtgkccbfepjgjoaaDoor
open Go Go.RowKit

/-- Bytes as a text. -/
def tx (l : List Int) : ByteArray := ⟨(Lib.bytesOf l).toArray⟩
theorem bytesOf_length (l : List Int) : (Lib.bytesOf l).length = l.length := by simp [Lib.bytesOf]
theorem bytesOf_getD {l : List Int} (h : Byt l) (j : Nat) (hj : j < (Lib.bytesOf l).length) : (((Lib.bytesOf l)[j]).toNat : Int) = l.getD j 0 := by
  rw [bytesOf_length] at hj
  have hb := h l[j] (List.getElem_mem hj)
  simp only [Lib.bytesOf, List.getElem_map, List.getD_eq_getElem?_getD, List.getElem?_eq_getElem hj, Option.getD_some]
  simp
  omega

theorem str_conv {w : World} {v : Value} {l : List Int} (h : Rd w v l) : (convert 24 9 v).run Tryd.prog w = .ok (.string (tx l)) w := by
  obtain ⟨p, c, rfl, hc, hm, hp, hb, hby⟩ := h
  cases p with
  | none =>
    have h0 : l = [] := by
      rcases Nat.eq_zero_or_pos l.length with h | h
      · exact List.eq_nil_of_length_eq_zero h
      · obtain ⟨_, _, e, _⟩ := hb h; cases e
    subst h0
    rw [run_convert_bytes_string w 24 9 5 none _ c Tryd.underlying24 Tryd.underlying5 Tryd.underlying9]
    simp [tx, Lib.bytesOf]
    try rfl
  | some a =>
    have := run_convert_bytes_back (P := Tryd.prog) w 24 9 5 a c (Lib.bytesOf l) Tryd.underlying24 Tryd.underlying5 Tryd.underlying9 fun j hj => by
      have hj' := hj
      rw [bytesOf_length] at hj'
      obtain ⟨b, o, e1, hcell⟩ := hb (by omega)
      injection e1 with e1
      subst e1
      rw [Lib.addr_add, hcell j hj', bytesOf_getD hby j hj]
    rw [bytesOf_length] at this
    exact this

/-- A 0 stands first at place k. -/
def ZAt (l : List Int) (k : Nat) : Prop := k < l.length ∧ l.getD k 0 = 0 ∧ ∀ j, j < k → l.getD j 0 ≠ 0

set_option maxRecDepth 100000 in
theorem zz_found (v : Value) (l : List Int) (k : Nat) (w : World) (h : Rd w v l) (hz : ZAt l k) :
    Calls Tryd.prog 88 #[v] w fun e w' => e = .returned (.int .i64 k) ∧ w = w' := by
  obtain ⟨hk, h0, hne⟩ := hz
  obtain ⟨b, o, c, rfl, hc, hm, hat⟩ := h.at' (by omega)
  obtain ⟨n, hn⟩ : ∃ n, l.length = n := ⟨_, rfl⟩
  rw [hn] at hk hc ⊢
  have hcm : c ≤ 9223372036854775807 := by simp only [maxLen] at hm; omega
  have HN := Lib.hid hn
  have HE := Lib.hid hne
  have HAT := Lib.hid hat
  have H0 := Lib.hid h0
  clear hn hne hat h0
  go_enter Tryd.func88, Tryd.ntmps88
  go_wp2
  go_loop [7] (fun i => ∃ j : Nat, i = .int .i64 j ∧ j ≤ k) (fun i => ((n : Int) - intOf i).toNat)
  case atStart => exact ⟨0, rfl, Nat.zero_le _⟩
  case round =>
    obtain ⟨j, rfl, hj⟩ := hrel
    have kc := HAT.out.cell j (by rw [HN.out]; omega)
    by_cases e : j = k
    · subst e
      rw [H0.out] at kc
      go_wp2
      go_ret
      exact ⟨rfl, rfl⟩
    · have hx := HE.out j (by omega)
      have hx2 : (l.getD j 0 == 0) = false := by simpa using hx
      have HX := Lib.hid hx
      generalize l.getD j 0 = x at *
      clear hx HX
      go_wp2
      go_round
      case rel => exact ⟨j + 1, by go_num, by omega⟩
      case measure => simp [intOf]; omega

theorem zz_none (v : Value) (l : List Int) (w : World) (h : Rd w v l) (hne : ∀ j, j < l.length → l.getD j 0 ≠ 0) :
    Calls Tryd.prog 88 #[v] w fun e w' => e = .returned (.int .i64 (-1)) ∧ w = w' := by
  obtain ⟨n, hn⟩ : ∃ n, l.length = n := ⟨_, rfl⟩
  by_cases h0 : n = 0
  · obtain rfl : l = [] := List.eq_nil_of_length_eq_zero (by omega)
    obtain ⟨p, c, rfl, _⟩ := h
    go_enter Tryd.func88, Tryd.ntmps88
    go_wp2
    refine wp_loop_rounds 1 ?_
    rw [rounds_succ]
    go_wp2
    go_ret
    exact ⟨rfl, rfl⟩
  · obtain ⟨b, o, c, rfl, hc, hm, hat⟩ := h.at' (by omega)
    rw [hn] at hc hne ⊢
    have hcm : c ≤ 9223372036854775807 := by simp only [maxLen] at hm; omega
    have HN := Lib.hid hn
    have HE := Lib.hid hne
    have HAT := Lib.hid hat
    clear hn hne hat
    go_enter Tryd.func88, Tryd.ntmps88
    go_wp2
    go_loop [7] (fun i => ∃ j : Nat, i = .int .i64 j ∧ j ≤ n) (fun i => ((n : Int) - intOf i).toNat)
    case atStart => exact ⟨0, rfl, Nat.zero_le _⟩
    case round =>
      obtain ⟨j, rfl, hj⟩ := hrel
      by_cases e : j < n
      · have kc := HAT.out.cell j (by rw [HN.out]; omega)
        have hx := HE.out j e
        have hx2 : (l.getD j 0 == 0) = false := by simpa using hx
        have HX := Lib.hid hx
        generalize l.getD j 0 = x at *
        clear hx HX
        go_wp2
        go_round
        case rel => exact ⟨j + 1, by go_num, by omega⟩
        case measure => simp [intOf]; omega
      · go_wp2
        go_ret
        exact ⟨rfl, rfl⟩

/-- What reading a text gives. -/
theorem null_no (s : Nat) (big : Bool) (ch : Int) (E : Value) (r : List Int) (n : Nat) (w : World) (h : Ss w s big ch E r) (hn : r.length < n) (hb : n ≤ 1152921504606846976) :
    Calls Tryd.prog 71 #[.pointer (some ⟨s, 0, none⟩), .int .i64 n] w (RetNo w s big ch E (.string ⟨#[]⟩)) := by
  have H := Lib.hid (rdS_no s big ch E r n w h hn hb)
  obtain ⟨v, xs, i, h1, _⟩ := id h
  have s4 : w.cell? ⟨s, 4, none⟩ = some (.int .i64 i) := (blk_cell h1.blk 4).trans rfl
  obtain ⟨T, p, rfl⟩ := h.err
  clear h h1
  go_enter Tryd.func71, Tryd.ntmps71
  go_wp2_with (first | (go_at_call 85; go_must (refine H.out.mono ?_); rintro e w1 ⟨rfl, hs, hf⟩))
  go_ret2
  exact ⟨rfl, hs, hf⟩

theorem null_all (s : Nat) (big : Bool) (ch : Int) (E : Value) (r : List Int) (n : Nat) (w : World) (h : Ss w s big ch E r) (hn : n ≤ r.length) (hz : ∀ j, j < n → r.getD j 0 ≠ 0) :
    Calls Tryd.prog 71 #[.pointer (some ⟨s, 0, none⟩), .int .i64 n] w (RetV w s big ch E (.string (tx (r.take n))) (r.drop n)) := by
  have H := Lib.hid (rdS_ok s big ch E r n w h hn)
  obtain ⟨v, xs, i, h1, _⟩ := id h
  have s4 : w.cell? ⟨s, 4, none⟩ = some (.int .i64 i) := (blk_cell h1.blk 4).trans rfl
  have hz' : ∀ j, j < (r.take n).length → (r.take n).getD j 0 ≠ 0 := fun j hj => by
    rw [List.length_take] at hj
    rw [List.getD_eq_getElem?_getD, List.getElem?_take_of_lt (by omega), ← List.getD_eq_getElem?_getD]
    exact hz j (by omega)
  have HZ := Lib.hid hz'
  clear h h1 hz hz' hn
  generalize r.take n = l at *
  generalize r.drop n = q at *
  go_enter Tryd.func71, Tryd.ntmps71
  go_wp2_with (first
    | (go_at_call 85; go_must (refine H.out.mono ?_); rintro e w1 ⟨u, rfl, hu, ho, hs, hf⟩; have hcv := str_conv hu)
    | (go_at_call 88; go_must (refine (zz_none u l w1 hu HZ.out).mono ?_); rintro e w2 ⟨rfl, rfl⟩))
  go_ret2
  exact ⟨rfl, hs, hf⟩

theorem null_found (s : Nat) (big : Bool) (ch : Int) (E : Value) (r : List Int) (n k : Nat) (w : World) (h : Ss w s big ch E r) (hn : n ≤ r.length) (hk0 : 0 < k) (hk : k < n) (h0 : r.getD k 0 = 0) (hz : ∀ j, j < k → r.getD j 0 ≠ 0) :
    Calls Tryd.prog 71 #[.pointer (some ⟨s, 0, none⟩), .int .i64 n] w (RetV w s big ch E (.string (tx (r.take k))) (r.drop (k + 1))) := by
  obtain ⟨v, xs, i, h1, hr, h3, h4⟩ := h
  have hle := h1.le
  have hlim := h1.lim
  have hrl : r.length = xs.length - i := by rw [hr, List.length_drop]
  have H := read_ok s v xs i n big ch w h1 (by omega)
  rw [← hr] at H
  have H := Lib.hid H
  have s4 : w.cell? ⟨s, 4, none⟩ = some (.int .i64 i) := (blk_cell h1.blk 4).trans rfl
  have hlen : (r.take n).length = n := by rw [List.length_take]; omega
  have gd : ∀ j, j < n → (r.take n).getD j 0 = r.getD j 0 := fun j hj => by
    rw [List.getD_eq_getElem?_getD, List.getElem?_take_of_lt hj, ← List.getD_eq_getElem?_getD]
  have hZ : ZAt (r.take n) k := ⟨by omega, by rw [gd k hk]; exact h0, fun j hj => by rw [gd j (by omega)]; exact hz j hj⟩
  have htt : (r.take n).take k = r.take k := by rw [List.take_take, Nat.min_eq_left (by omega)]
  have HZ := Lib.hid hZ
  have HE := Lib.hid h3
  have HR := Lib.hid (show r.drop (k + 1) = xs.drop (i + k + 1) by rw [hr, List.drop_drop]; congr 1)
  have HLE := Lib.hid (show i + k + 1 ≤ xs.length by omega)
  have HLN := Lib.hid hlen
  rw [← htt]
  have i1 : (i : Int) + k + 1 ≤ 2147483647 := by omega
  clear h1 h3 hr hlim hrl hle h0 hz hZ htt gd hlen hn
  generalize r.take n = l at *
  generalize r.drop (k + 1) = q at *
  go_enter Tryd.func71, Tryd.ntmps71
  go_wp2_with (first
    | (go_at_call 85; go_must (refine H.out.mono ?_); rintro e w1 ⟨u, rfl, hu, ho, hs, hf⟩; have z4 : w1.cell? ⟨s, 4, none⟩ = some (.int .i64 ((i + n : Nat) : Int)) := (blk_cell hs.blk 4).trans rfl; have f4 := blk_free hs.blk 4)
    | (go_at_call 88; go_must (refine (zz_found u l k w1 hu HZ.out).mono ?_); rintro e w2 ⟨rfl, rfl⟩; obtain ⟨b, o, c, rfl, hc1, hm1, hat⟩ := hu.at' (by rw [HLN.out]; omega); have hsl := run_cutH (P := Tryd.prog) u8 b o l.length c k k rfl (by rw [HLN.out] at hc1; omega); have hm2 : c ≤ 9223372036854775807 := (by simp only [maxLen] at hm1; omega); have hcv := str_conv ((hat.take k).rd (n := k) (c := c) (by rw [List.length_take, HLN.out]; omega) (by rw [HLN.out] at hc1; omega) hm1)))
  go_ret2
  have hf2 := hf.set 4 (.int .i64 ((i : Int) + k + 1))
  have hs2 := hs.at' (i + k + 1) HLE.out
  rw [show ((i + k + 1 : Nat) : Int) = (i : Int) + k + 1 by omega] at hs2
  exact ⟨rfl, ⟨v, xs, i + k + 1, hs2, HR.out, HE.out.fx hf2 (Nat.ne_of_lt h4), h4⟩, hf2⟩
end Go.Proofs.YtgkccbfepjgjoaaDoor
