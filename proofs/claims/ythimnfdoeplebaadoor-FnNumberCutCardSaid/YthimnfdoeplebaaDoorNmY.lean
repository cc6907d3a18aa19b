/- NumberInt64 of the form of an integer: the whole chain. -/
import Derived.Test.YthimnfdoeplebaaDoorNmX
namespace Go.Proofs.YthimnfdoeplebaaDoor
open Go Go.RowKit

set_option maxRecDepth 100000 in
theorem internal (n : Int) (hn : -9223372036854775808 ≤ n ∧ n ≤ 9223372036854775807) (v x y : Value) (w : World) (h : Rd w v (formOf n)) (hx : Rd w x [202, 10, 23, 34, 73, 4, 69, 55, 78, 59, 8]) (hy : Rd w y [53, 92, 79, 68, 29, 98, 33, 47, 24, 43, 93, 102]) :
    Calls Tryd.prog 85 #[v, x, y] w fun e w' => e = .returned (.tuple #[.int .i64 n, .nilIface]) ∧ w' = w := by
  by_cases h0 : n = 0
  · subst h0
    have e : formOf 0 = [128] := form_zero _
    rw [e] at h
    have HZ := Lib.hid (isZero_yes v w h)
    clear h hx hy
    go_enter Tryd.func85, Tryd.ntmps85
    go_wp2_with (first | (go_at_call 96; refine HZ.out.mono ?_; rintro e w1 ⟨rfl, rfl⟩))
    exact bodyPost_ret (v := .tuple #[.int .i64 0, .nilIface]) (by simp [results, Tryd.results85, go_sem]) rfl ⟨rfl, rfl⟩
  · have hL := form_length n hn
    have c1 := cmpB v x _ _ w h hx hL (by simp)
    have c2 := cmpB v y _ _ w h hy hL (by simp)
    rw [← form_max, order n _ hn (by omega)] at c1
    rw [← form_min, order n _ hn (by omega)] at c2
    have ht := toI64 n hn h0 v w h
    obtain ⟨a, r, e, ha⟩ : ∃ a r, formOf n = a :: r ∧ a ≠ 0 ∧ a ≠ 128 ∧ a ≠ 255 := by
      rcases form_cases n hn with ⟨e, _⟩ | ⟨P, j, L, h1, h2, h3, _, ⟨e, _⟩ | ⟨e, _⟩⟩
      · exact absurd e h0
      · exact ⟨_, _, e, by omega, by omega, by omega⟩
      · exact ⟨_, _, e, by omega, by omega, by omega⟩
    rw [e] at h
    have HZ := Lib.hid (isZero_no v a r w h ha.2.1)
    have HI := Lib.hid (isInf_no v a r w h ha.1 ha.2.2)
    obtain ⟨s, hs⟩ : ∃ s, sgn n 9223372036854775807 = s := ⟨_, rfl⟩
    obtain ⟨t, hst⟩ : ∃ t, sgn n (-9223372036854775808) = t := ⟨_, rfl⟩
    rw [hs] at c1
    rw [hst] at c2
    have hs0 : ¬ 0 < s := by rw [← hs]; unfold sgn; split <;> (try split) <;> omega
    have ht0 : ¬ t < 0 := by rw [← hst]; unfold sgn; split <;> (try split) <;> omega
    have C1 := Lib.hid c1
    have C2 := Lib.hid c2
    have HT := Lib.hid ht
    clear c1 c2 ht hs hst h hx hy e ha hL
    go_enter Tryd.func85, Tryd.ntmps85
    go_wp2_with (first
      | (go_at_call 96; refine HZ.out.mono ?_; rintro e w1 ⟨rfl, rfl⟩)
      | (go_at_call 97; refine HI.out.mono ?_; rintro e w1 ⟨rfl, rfl⟩)
      | (go_at_call 98; refine C1.out.mono ?_; rintro e w1 ⟨rfl, rfl⟩; clear C1)
      | (go_at_call 98; refine C2.out.mono ?_; rintro e w1 ⟨rfl, rfl⟩)
      | (go_at_call 99; refine HT.out.mono ?_; rintro e w1 ⟨rfl, rfl⟩))
    exact bodyPost_ret (v := .tuple #[.int .i64 n, .nilIface]) (by simp [results, Tryd.results85, go_sem]) rfl ⟨rfl, rfl⟩

theorem toInt (n : Int) (hn : -9223372036854775808 ≤ n ∧ n ≤ 9223372036854775807) (v : Value) (w : World) (h : Rd w v (formOf n)) :
    Calls Tryd.prog 76 #[v] w fun e w' => e = .returned (.tuple #[.int .i64 n, .nilIface]) ∧ Gr w w' := by
  have HI := fun x y w (hv : Rd w v (formOf n)) hx hy => Lib.hid (internal n hn v x y w hv hx hy)
  go_enter Tryd.func76, Tryd.ntmps76
  go_wp2_with (first
    | (go_at_call 86; refine (maxB w).mono ?_; rintro e w1 ⟨x, rfl, hx, hg1⟩)
    | (go_at_call 87; refine (minB w1).mono ?_; rintro e w2 ⟨y, rfl, hy, hg2⟩)
    | (go_at_call 85; refine (HI x y w2 (h.gr (hg1.trans hg2)) (hx.gr hg2) hy).out.mono ?_; rintro e w3 ⟨rfl, rfl⟩))
  exact bodyPost_ret (v := .tuple #[.int .i64 n, .nilIface]) (by simp [results, Tryd.results76, go_sem]) rfl ⟨rfl, hg1.trans hg2⟩

theorem mInt64 (n : Int) (hn : -9223372036854775808 ≤ n ∧ n ≤ 9223372036854775807) (b : Nat) (v : Value) (w : World) (hb : w.cell? ⟨b, 0, none⟩ = some v) (h : Rd w v (formOf n)) :
    Calls Tryd.prog 58 #[.pointer (some ⟨b, 0, none⟩)] w fun e w' => e = .returned (.tuple #[.int .i64 n, .nilIface]) ∧ Gr w w' := by
  have HI := Lib.hid (toInt n hn v w h)
  obtain ⟨p, c, rfl, _⟩ := h
  go_enter Tryd.func58, Tryd.ntmps58
  go_wp2_with (first
    | (go_at_call 76; refine HI.out.mono ?_; rintro e w1 ⟨rfl, hg1⟩))
  exact bodyPost_ret (v := .tuple #[.int .i64 n, .nilIface]) (by simp [results, Tryd.results58, go_sem]) rfl ⟨rfl, hg1⟩

theorem newNumber (v : Value) (xs : List Int) (w : World) (h : Rd w v xs) :
    Calls Tryd.prog 57 #[v] w fun e w' => ∃ b, e = .returned (.pointer (some ⟨b, 0, none⟩)) ∧ w'.cell? ⟨b, 0, none⟩ = some v ∧ Gr w w' := by
  obtain ⟨p, c, rfl, _⟩ := h
  go_enter Tryd.func57, Tryd.ntmps57
  go_wp2
  go_ret
  exact ⟨w.heap.size, rfl, by rw [blk_cell (heap_new_at w _ rfl)]; rfl, (Gr.refl _).alloc _⟩

theorem int64Of (n : Int) (hn : -9223372036854775808 ≤ n ∧ n ≤ 9223372036854775807) (v : Value) (w : World) (h : Rd w v (formOf n)) :
    Calls Tryd.prog 36 #[v] w fun e w' => e = .returned (.tuple #[.int .i64 n, .bool true]) ∧ Gr w w' := by
  have hl := form_length n hn
  have HC := Lib.hid (clone v _ w h (by omega))
  have HN := fun u w hu => Lib.hid (newNumber u (formOf n) w hu)
  have HI := fun b u w hb hu => Lib.hid (mInt64 n hn b u w hb hu)
  obtain ⟨p, c, rfl, _⟩ := h
  clear hl
  go_enter Tryd.func36, Tryd.ntmps36
  go_wp2_with (first
    | (go_at_call 35; go_must (refine HC.out.mono ?_); rintro e w1 ⟨u1, rfl, ho1, hg1⟩)
    | (go_at_call 57; go_must (refine (HN u1 w1 ho1.rd).out.mono ?_); rintro e w2 ⟨b, rfl, hb, hg2⟩)
    | (go_at_call 58; go_must (refine (HI b u1 w2 hb (ho1.rd.gr hg2)).out.mono ?_); rintro e w3 ⟨rfl, hg3⟩))
  go_quiet (fail)
  go_wp2
  exact bodyPost_ret (v := .tuple #[.int .i64 n, .bool true]) (by simp [results, Tryd.results36, go_sem]) rfl ⟨rfl, ((hg1.trans hg2).trans hg3).drewN _⟩
end Go.Proofs.YthimnfdoeplebaaDoor
