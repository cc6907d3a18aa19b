/- numberDigits of the laws: some digits, none of them nought at either end. -/
import Derived.Test.YthimnfdoeplebaaDoorNmTa
namespace Go.Proofs.YthimnfdoeplebaaDoor
open Go Go.RowKit

/-- Neither the first nor the last is nought. -/
def Core (d : List Int) : Prop := d = [] ∨ (d.getD 0 1 ≠ 0 ∧ d.getLast? ≠ some 0)

theorem RdAt.sub {w : World} {b o : Nat} {xs ys : List Int} (h : RdAt w b o xs) (k : Nat) (hy : ys = xs.drop k) : RdAt w b (o + k) ys := by subst hy; exact h.drop k

theorem core_of {l : List Int} {o m : Nat} (hl : o + m ≤ l.length) (h1 : m = 0 ∨ (l.getD o 0 ≠ 0 ∧ l.getD (o + (m - 1)) 0 ≠ 0)) : Core ((l.drop o).take m) := by
  rcases Nat.eq_zero_or_pos m with rfl | hm
  · exact .inl (by simp)
  · rcases h1 with h1 | ⟨h1, h2⟩
    · omega
    · right
      rw [List.getD_eq_getElem?_getD, List.getElem?_eq_getElem (by omega)] at h1 h2
      constructor
      · rw [List.getD_eq_getElem?_getD, List.getElem?_take_of_lt hm, List.getElem?_drop, Nat.add_zero, List.getElem?_eq_getElem (by omega)]
        exact h1
      · rw [List.getLast?_take, if_neg (by omega), List.getElem?_drop, List.getElem?_eq_getElem (by omega)]
        simpa using h2

set_option maxRecDepth 100000 in
set_option maxHeartbeats 2000000 in
theorem numDig (v : Value) (xs : List Int) (w : World) (h : Rd w v xs) :
    Calls Tryd.prog 21 #[v, .int .i64 18] w fun e w' => ∃ u d, e = .returned u ∧ Rd w' u d ∧ D10 d ∧ d.length ≤ 18 ∧ Core d ∧ Gr w w' := by
  have hby := h.byt
  obtain ⟨p, c, rfl, hc, hm, _, hb, _⟩ := h
  obtain ⟨n, hn⟩ : ∃ n, xs.length = n := ⟨_, rfl⟩
  rw [hn] at hc hb ⊢
  have hcm : c ≤ 9223372036854775807 := by simp only [maxLen] at hm; omega
  have HB := Lib.hid hb
  have HBY := Lib.hid hby
  clear hb hby hm hn
  go_enter Tryd.func21, Tryd.ntmps21
  go_wp2
  go_loopw [5, 10] (fun o i wr => ∃ (k : Nat) (l : List Int), i = .int .i64 k ∧ k ≤ n ∧ Own w.heap.size wr o l ∧ Gr w wr ∧ D10 l ∧ l.length ≤ 18) (fun _ i _ => ((n : Int) - intOf i).toNat)
  case atStart => exact ⟨0, [], rfl, Nat.zero_le _, Own.nil _ _, Gr.refl _, fun _ h => (by cases h), Nat.zero_le _⟩
  case round =>
    obtain ⟨k, l, rfl, hk, hown, hgr, hd, hl⟩ := hrel
    have HW := Lib.hid hown
    have HR := Lib.hid hgr
    have HD := Lib.hid hd
    by_cases hkn : k < n
    · obtain ⟨b, o, rfl, hcell⟩ := HB.out (by omega)
      have kc := hgr.cell (hcell k hkn)
      obtain ⟨x0, x1⟩ := byt_getD HBY.out k
      generalize xs.getD k 0 = x at *
      obtain ⟨y, hy⟩ : ∃ y, x % 10 = y := ⟨_, rfl⟩
      have y0 : 0 ≤ y := by omega
      have y1 : y ≤ 9 := by omega
      obtain ⟨q, cc, rfl, _⟩ := hown.rd
      obtain ⟨m, hm⟩ : ∃ m, l.length = m := ⟨_, rfl⟩
      rw [hm] at hl HW hown ⊢
      have HM := Lib.hid hm
      clear hown hgr hd hcell hm
      by_cases h18 : m < 18
      · have h18i : (m : Int) < 18 := by omega
        go_wp2_with (first
          | (at_builtin; go_must (refine wpList_append_gr Go.Proofs.YthimnfdoeplebaaDoor.u8 rfl _ _ rfl (w0 := w) (HR.out.alloc _) rfl (xs := l) (HW.out.gr ((Gr.refl wr).alloc _)) rfl (ys := [y]) (OwnAt.rd (OwnAt.fresh' wr [y] #[.int .u8 y] 1 wr.heap.size (byt_one (by omega)) rfl rfl (by simp [maxLen]) rfl)) (by rw [HM.out]; simp; omega) ?_); intro v5 w5 ho5 hg5))
        go_roundw
        case rel => exact ⟨k + 1, _, by go_num, by omega, ho5, hg5, fun z hz => (by rcases List.mem_append.1 hz with h | h; exact HD.out z h; have := List.mem_singleton.1 h; omega), by rw [List.length_append, HM.out]; simp; omega⟩
        case measure => first | (simp [intOf]; done) | (simp [intOf]; omega)
      · have h18i : ¬ (m : Int) < 18 := by omega
        go_wp2
        go_roundw
        case rel => exact ⟨k + 1, l, by go_num, by omega, HW.out, HR.out, HD.out, by rw [HM.out]; omega⟩
        case measure => first | (simp [intOf]; done) | (simp [intOf]; omega)
    · obtain rfl : n = k := by omega
      rcases Nat.eq_zero_or_pos l.length with hz | hp
      · obtain rfl : l = [] := List.eq_nil_of_length_eq_zero hz
        obtain ⟨q, cc, rfl, _⟩ := hown.rd
        clear hown hgr hd hz
        go_wp2
        refine wp_loop_rounds 1 ?_
        rw [rounds_succ]
        go_wp2
        refine wp_loop_rounds 1 ?_
        rw [rounds_succ]
        go_wp2
        go_ret
        exact ⟨_, [], rfl, HW.out.rd, fun _ h => (by cases h), Nat.zero_le _, .inl rfl, HR.out⟩
      · obtain ⟨g, cap, rfl, hg, hat⟩ := hown.form hp
        have hcap := hat.2.1
        have hcm' : cap ≤ 9223372036854775807 := by have := hat.2.2.1; simp only [maxLen] at this; omega
        have hcl : cap ≤ maxLen := hat.2.2.1
        have HCL := Lib.hid hcl
        have HAT := Lib.hid hat.rdAt
        obtain ⟨L, hL⟩ : ∃ L, l.length = L := ⟨_, rfl⟩
        rw [hL] at hcap hl ⊢
        have HLE := Lib.hid hL
        clear hat hgr hown hg hL hd hp hcl
        go_wp2
        go_loopw [5] (fun s wr' => ∃ (o m o' : Nat), s = .slice (some ⟨g, o', none⟩) m (cap - o) ∧ (m = 0 ∨ o' = o) ∧ o + m = L ∧ wr' = wr) (fun s _ => slen s)
        case atStart => exact ⟨0, L, 0, rfl, .inr rfl, Nat.zero_add _, rfl⟩
        case round =>
          obtain ⟨o, m, o', rfl, hoo, hom, rfl⟩ := hrel
          rcases Nat.eq_zero_or_pos m with rfl | hmp
          · clear hoo
            go_wp2
            refine wp_loop_rounds 1 ?_
            rw [rounds_succ]
            go_wp2
            go_ret
            have hr : RdAt wr g o' [] := ⟨fun i hi => absurd hi (by simp), byt_nil⟩
            exact ⟨_, [], rfl, hr.rd (n := 0) (c := cap - o) rfl (Nat.zero_le _) (by have := HCL.out; omega), fun _ h => (by cases h), Nat.zero_le _, .inl rfl, HR.out⟩
          · obtain rfl : o' = o := by omega
            obtain ⟨m, rfl⟩ : ∃ j, m = j + 1 := ⟨m - 1, by omega⟩
            clear hoo
            have ko := HAT.out.cell o' (by rw [HLE.out]; omega)
            rw [Nat.zero_add] at ko
            by_cases hx : l.getD o' 0 = 0
            · rw [hx] at ko
              clear hx
              have i1 : (1 : Int) ≤ (m : Int) + 1 := by omega
              have i2 : ((m : Int) + 1) ≤ ((cap - o' : Nat) : Int) := by omega
              go_wp2
              go_roundw
              case rel => exact ⟨o' + 1, m, if cap - o' = 1 then o' else o' + 1, by rw [show cap - (o' + 1) = cap - o' - 1 by omega]; by_cases hc1 : cap - o' = 1 <;> simp [hc1], by by_cases hm0 : m = 0; exact .inl hm0; right; rw [if_neg (by omega)], by omega, by first | rfl | trivial⟩
              case measure => first | (simp [slen]; done) | (simp [slen]; omega)
            · have HF : l.getD o' 0 ≠ 0 := hx
              have HX0 := Lib.hid hx
              generalize hz : l.getD o' 0 = z at ko hx
              have hz0 : (z == 0) = false := by rw [beq_eq_false_iff_ne]; exact hx
              clear hz hx
              have HF := Lib.hid HF
              go_wp2
              go_loopw [5] (fun s wr' => ∃ (m2 : Nat), m2 ≤ m + 1 ∧ s = .slice (some ⟨g, o', none⟩) m2 (cap - o') ∧ wr' = wr) (fun s _ => slen s)
              case atStart => exact ⟨m + 1, Nat.le_refl _, rfl, rfl⟩
              case round =>
                obtain ⟨m2, hm2, rfl, rfl⟩ := hrel
                have fin : ∀ hh : (m2 = 0 ∨ (l.getD o' 0 ≠ 0 ∧ l.getD (o' + (m2 - 1)) 0 ≠ 0)), ∃ d, Rd wr (.slice (some ⟨g, o', none⟩) m2 (cap - o')) d ∧ D10 d ∧ d.length ≤ 18 ∧ Core d := by
                  intro hh
                  have hr := (HAT.out.drop o').take m2
                  rw [Nat.zero_add] at hr
                  have hlen : ((l.drop o').take m2).length = m2 := by rw [List.length_take, List.length_drop, HLE.out]; omega
                  exact ⟨_, hr.rd hlen (by omega) (by have := HCL.out; omega), fun x hx => HD.out x (List.mem_of_mem_drop (List.mem_of_mem_take hx)), by rw [hlen]; omega, core_of (by rw [HLE.out]; omega) hh⟩
                have FIN := Lib.hid fin
                clear fin
                rcases Nat.eq_zero_or_pos m2 with rfl | hm2p
                · go_wp2
                  go_ret
                  obtain ⟨d, e1, e2, e3, e4⟩ := FIN.out (by simp)
                  first | exact ⟨_, d, rfl, e1, e2, e3, e4, HR.out⟩ | exact ⟨_, rfl, d, e1, e2, e3, e4, HR.out⟩
                · obtain ⟨j, rfl⟩ : ∃ j, m2 = j + 1 := ⟨m2 - 1, by omega⟩
                  have kj := HAT.out.cell (o' + j) (by rw [HLE.out]; omega)
                  rw [Nat.zero_add] at kj
                  by_cases hx : l.getD (o' + j) 0 = 0
                  · rw [hx] at kj
                    clear hx
                    go_wp2
                    go_roundw
                    case rel => exact ⟨j, by omega, by first | rfl | (congr 1; omega), by first | rfl | trivial⟩
                    case measure => first | (simp [slen]; done) | (simp [slen]; omega)
                  · have HX := Lib.hid hx
                    clear hx
                    generalize hy : l.getD (o' + j) 0 = y at *
                    have HY := Lib.hid hy
                    clear hy
                    have hy0 : (y == 0) = false := by rw [beq_eq_false_iff_ne]; exact HX.out
                    go_wp2
                    go_ret
                    obtain ⟨d, e1, e2, e3, e4⟩ := FIN.out (.inr ⟨HF.out, by first | (rw [Nat.add_sub_cancel, HY.out]; exact HX.out) | (rw [HY.out]; exact HX.out)⟩)
                    first | exact ⟨_, d, rfl, e1, e2, e3, e4, HR.out⟩ | exact ⟨_, rfl, d, e1, e2, e3, e4, HR.out⟩
end Go.Proofs.YthimnfdoeplebaaDoor
