/- NumberInt64 and NumberUint64 of a form with a pair behind the point: the whole chain. -/
import Derived.Test.YthimnfdoeplebaaDoorNmCa
namespace Go.Proofs.YthimnfdoeplebaaDoor
open Go Go.RowKit

theorem internalC (S : List Int) (n : Int) (a : Int) (r : List Int) (e : S = a :: r) (ha : a ≠ 0) (ha' : a ≠ 128) (ha'' : a ≠ 255) (hL : S.length < 24) (hmax : a < 202) (hmin : 53 < a)
    (v x y : Value) (w : World) (h : Rd w v S) (hx : Rd w x [202, 10, 23, 34, 73, 4, 69, 55, 78, 59, 8]) (hy : Rd w y [53, 92, 79, 68, 29, 98, 33, 47, 24, 43, 93, 102])
    (ht : Calls Tryd.prog 99 #[v] w fun e w' => e = .returned (.tuple #[.int .i64 n, .nilIface]) ∧ w' = w) :
    Calls Tryd.prog 85 #[v, x, y] w fun e w' => e = .returned (.tuple #[.int .i64 n, .nilIface]) ∧ w' = w := by
  have hl1 : 1 ≤ S.length := by rw [e]; simp
  have c1 := cmpB v x _ _ w h hx ⟨hl1, hL⟩ (by simp)
  have c2 := cmpB v y _ _ w h hy ⟨hl1, hL⟩ (by simp)
  rw [e, cmp_head _ _ (by omega), show sgn a 202 = -1 from if_pos hmax] at c1
  rw [e, cmp_head _ _ (by omega), show sgn a 53 = 1 by unfold sgn; rw [if_neg (by omega), if_pos hmin]] at c2
  rw [e] at h
  have HZ := Lib.hid (isZero_no v a r w h ha')
  have HI := Lib.hid (isInf_no v a r w h ha ha'')
  have C1 := Lib.hid c1
  have C2 := Lib.hid c2
  have HT := Lib.hid ht
  clear c1 c2 ht h hx hy e ha hL hl1
  go_enter Tryd.func85, Tryd.ntmps85
  go_wp2_with (first
    | (go_at_call 96; refine HZ.out.mono ?_; rintro e w1 ⟨rfl, rfl⟩)
    | (go_at_call 97; refine HI.out.mono ?_; rintro e w1 ⟨rfl, rfl⟩)
    | (go_at_call 98; refine C1.out.mono ?_; rintro e w1 ⟨rfl, rfl⟩; clear C1)
    | (go_at_call 98; refine C2.out.mono ?_; rintro e w1 ⟨rfl, rfl⟩)
    | (go_at_call 99; refine HT.out.mono ?_; rintro e w1 ⟨rfl, rfl⟩))
  exact bodyPost_ret (v := .tuple #[.int .i64 n, .nilIface]) (by simp [results, Tryd.results85, go_sem]) rfl ⟨rfl, rfl⟩

theorem toIntC (S : List Int) (n : Int) (a : Int) (r : List Int) (e : S = a :: r) (ha : a ≠ 0) (ha' : a ≠ 128) (ha'' : a ≠ 255) (hL : S.length < 24) (hmax : a < 202) (hmin : 53 < a)
    (HT : ∀ v w, Rd w v S → Calls Tryd.prog 99 #[v] w fun e w' => e = .returned (.tuple #[.int .i64 n, .nilIface]) ∧ w' = w) (v : Value) (w : World) (h : Rd w v S) :
    Calls Tryd.prog 36 #[v] w fun e w' => e = .returned (.tuple #[.int .i64 n, .bool true]) ∧ Gr w w' := by
  have K1 : ∀ v w, Rd w v S → Calls Tryd.prog 76 #[v] w fun e w' => e = .returned (.tuple #[.int .i64 n, .nilIface]) ∧ Gr w w' := by
    intro v w h
    have HI := fun x y w hv hx hy => Lib.hid (internalC S n a r e ha ha' ha'' hL hmax hmin v x y w hv hx hy (HT v w hv))
    clear HT e ha ha' ha'' hL hmax hmin
    go_enter Tryd.func76, Tryd.ntmps76
    go_wp2_with (first
      | (go_at_call 86; refine (maxB w).mono ?_; rintro e w1 ⟨x, rfl, hx, hg1⟩)
      | (go_at_call 87; refine (minB w1).mono ?_; rintro e w2 ⟨y, rfl, hy, hg2⟩)
      | (go_at_call 85; refine (HI x y w2 (h.gr (hg1.trans hg2)) (hx.gr hg2) hy).out.mono ?_; rintro e w3 ⟨rfl, rfl⟩))
    exact bodyPost_ret (v := .tuple #[.int .i64 n, .nilIface]) (by simp [results, Tryd.results76, go_sem]) rfl ⟨rfl, hg1.trans hg2⟩
  have K2 : ∀ b v w, w.cell? ⟨b, 0, none⟩ = some v → Rd w v S → Calls Tryd.prog 58 #[.pointer (some ⟨b, 0, none⟩)] w fun e w' => e = .returned (.tuple #[.int .i64 n, .nilIface]) ∧ Gr w w' := by
    intro b v w hb h
    have HI := Lib.hid (K1 v w h)
    obtain ⟨p, c, rfl, _⟩ := h
    clear K1 HT e ha ha' ha'' hL hmax hmin
    go_enter Tryd.func58, Tryd.ntmps58
    go_wp2_with (first
      | (go_at_call 76; refine HI.out.mono ?_; rintro e w1 ⟨rfl, hg1⟩))
    exact bodyPost_ret (v := .tuple #[.int .i64 n, .nilIface]) (by simp [results, Tryd.results58, go_sem]) rfl ⟨rfl, hg1⟩
  have HC := Lib.hid (clone v _ w h (by omega))
  have HN := fun u w hu => Lib.hid (newNumber u S w hu)
  have HI := fun b u w hb hu => Lib.hid (K2 b u w hb hu)
  obtain ⟨p, c, rfl, _⟩ := h
  clear K1 K2 HT e ha ha' ha'' hL hmax hmin
  go_enter Tryd.func36, Tryd.ntmps36
  go_wp2_with (first
    | (go_at_call 35; go_must (refine HC.out.mono ?_); rintro e w1 ⟨u1, rfl, ho1, hg1⟩)
    | (go_at_call 57; go_must (refine (HN u1 w1 ho1.rd).out.mono ?_); rintro e w2 ⟨b, rfl, hb, hg2⟩)
    | (go_at_call 58; go_must (refine (HI b u1 w2 hb (ho1.rd.gr hg2)).out.mono ?_); rintro e w3 ⟨rfl, hg3⟩))
  go_quiet (fail)
  go_wp2
  exact bodyPost_ret (v := .tuple #[.int .i64 n, .bool true]) (by simp [results, Tryd.results36, go_sem]) rfl ⟨rfl, ((hg1.trans hg2).trans hg3).drewN _⟩

theorem maxU (w : World) : Calls Tryd.prog 90 #[] w fun e w' => ∃ v, e = .returned v ∧ Rd w' v [202, 19, 45, 68, 45, 8, 38, 10, 56, 17, 16] ∧ Gr w w' := by
  have hB : Byt [202, 19, 45, 68, 45, 8, 38, 10, 56, 17, 16] := by intro x hx; simp at hx; omega
  have hL := fun w H (hH : w.heap.size = H) => Lib.hid (Rd.lit w [202, 19, 45, 68, 45, 8, 38, 10, 56, 17, 16] #[.int .u8 202, .int .u8 19, .int .u8 45, .int .u8 68, .int .u8 45, .int .u8 8, .int .u8 38, .int .u8 10, .int .u8 56, .int .u8 17, .int .u8 16] 11 hB rfl rfl (T := 5) (fr := (0, 0)) (by simp [maxLen]) hH)
  go_enter Tryd.func90, Tryd.ntmps90
  go_wp2
  go_ret
  exact ⟨_, rfl, (hL w _ rfl).out, (Gr.refl _).alloc _⟩
theorem minU (w : World) : Calls Tryd.prog 91 #[] w fun e w' => ∃ v, e = .returned v ∧ Rd w' v [128] ∧ Gr w w' := by
  have hL := fun w H (hH : w.heap.size = H) => Lib.hid (Rd.lit w [128] #[.int .u8 128] 1 (byt_one (by omega)) rfl rfl (T := 5) (fr := (0, 0)) (by simp [maxLen]) hH)
  go_enter Tryd.func91, Tryd.ntmps91
  go_wp2
  go_ret
  exact ⟨_, rfl, (hL w _ rfl).out, (Gr.refl _).alloc _⟩

theorem internalU (S : List Int) (n : Int) (a : Int) (r : List Int) (e : S = a :: r) (ha : 129 ≤ a) (hL : S.length < 24) (hmax : a < 202)
    (v x y : Value) (w : World) (h : Rd w v S) (hx : Rd w x [202, 19, 45, 68, 45, 8, 38, 10, 56, 17, 16]) (hy : Rd w y [128])
    (ht : Calls Tryd.prog 101 #[v] w fun e w' => e = .returned (.tuple #[.int .u64 n, .nilIface]) ∧ w' = w) :
    Calls Tryd.prog 89 #[v, x, y] w fun e w' => e = .returned (.tuple #[.int .u64 n, .nilIface]) ∧ w' = w := by
  have hl1 : 1 ≤ S.length := by rw [e]; simp
  have c1 := cmpB v x _ _ w h hx ⟨hl1, hL⟩ (by simp)
  have c2 := cmpB v y _ _ w h hy ⟨hl1, hL⟩ (by simp)
  rw [e, cmp_head _ _ (by omega), show sgn a 202 = -1 from if_pos hmax] at c1
  rw [e, cmp_head _ _ (by omega), show sgn a 128 = 1 by unfold sgn; rw [if_neg (by omega), if_pos (by omega)]] at c2
  rw [e] at h
  have HZ := Lib.hid (isZero_no v a r w h (by omega))
  have HI := Lib.hid (isInf_no v a r w h (by omega) (by omega))
  have C1 := Lib.hid c1
  have C2 := Lib.hid c2
  have HT := Lib.hid ht
  clear c1 c2 ht h hx hy e ha hL hl1
  go_enter Tryd.func89, Tryd.ntmps89
  go_wp2_with (first
    | (go_at_call 96; refine HZ.out.mono ?_; rintro e w1 ⟨rfl, rfl⟩)
    | (go_at_call 97; refine HI.out.mono ?_; rintro e w1 ⟨rfl, rfl⟩)
    | (go_at_call 98; refine C1.out.mono ?_; rintro e w1 ⟨rfl, rfl⟩; clear C1)
    | (go_at_call 98; refine C2.out.mono ?_; rintro e w1 ⟨rfl, rfl⟩)
    | (go_at_call 101; refine HT.out.mono ?_; rintro e w1 ⟨rfl, rfl⟩))
  exact bodyPost_ret (v := .tuple #[.int .u64 n, .nilIface]) (by simp [results, Tryd.results89, go_sem]) rfl ⟨rfl, rfl⟩

theorem toUintC (S : List Int) (n : Int) (a : Int) (r : List Int) (e : S = a :: r) (ha : 129 ≤ a) (hL : S.length < 24) (hmax : a < 202)
    (HT : ∀ v w, Rd w v S → Calls Tryd.prog 101 #[v] w fun e w' => e = .returned (.tuple #[.int .u64 n, .nilIface]) ∧ w' = w) (v : Value) (w : World) (h : Rd w v S) :
    Calls Tryd.prog 45 #[v] w fun e w' => e = .returned (.tuple #[.int .u64 n, .bool true]) ∧ Gr w w' := by
  have K1 : ∀ v w, Rd w v S → Calls Tryd.prog 80 #[v] w fun e w' => e = .returned (.tuple #[.int .u64 n, .nilIface]) ∧ Gr w w' := by
    intro v w h
    have HI := fun x y w hv hx hy => Lib.hid (internalU S n a r e ha hL hmax v x y w hv hx hy (HT v w hv))
    clear HT e ha hL hmax
    go_enter Tryd.func80, Tryd.ntmps80
    go_wp2_with (first
      | (go_at_call 90; refine (maxU w).mono ?_; rintro e w1 ⟨x, rfl, hx, hg1⟩)
      | (go_at_call 91; refine (minU w1).mono ?_; rintro e w2 ⟨y, rfl, hy, hg2⟩)
      | (go_at_call 89; refine (HI x y w2 (h.gr (hg1.trans hg2)) (hx.gr hg2) hy).out.mono ?_; rintro e w3 ⟨rfl, rfl⟩))
    exact bodyPost_ret (v := .tuple #[.int .u64 n, .nilIface]) (by simp [results, Tryd.results80, go_sem]) rfl ⟨rfl, hg1.trans hg2⟩
  have K2 : ∀ b v w, w.cell? ⟨b, 0, none⟩ = some v → Rd w v S → Calls Tryd.prog 64 #[.pointer (some ⟨b, 0, none⟩)] w fun e w' => e = .returned (.tuple #[.int .u64 n, .nilIface]) ∧ Gr w w' := by
    intro b v w hb h
    have HI := Lib.hid (K1 v w h)
    obtain ⟨p, c, rfl, _⟩ := h
    clear K1 HT e ha hL hmax
    go_enter Tryd.func64, Tryd.ntmps64
    go_wp2_with (first
      | (go_at_call 80; refine HI.out.mono ?_; rintro e w1 ⟨rfl, hg1⟩))
    exact bodyPost_ret (v := .tuple #[.int .u64 n, .nilIface]) (by simp [results, Tryd.results64, go_sem]) rfl ⟨rfl, hg1⟩
  have HC := Lib.hid (clone v _ w h (by omega))
  have HN := fun u w hu => Lib.hid (newNumber u S w hu)
  have HI := fun b u w hb hu => Lib.hid (K2 b u w hb hu)
  obtain ⟨p, c, rfl, _⟩ := h
  clear K1 K2 HT e ha hL hmax
  go_enter Tryd.func45, Tryd.ntmps45
  go_wp2_with (first
    | (go_at_call 35; go_must (refine HC.out.mono ?_); rintro e w1 ⟨u1, rfl, ho1, hg1⟩)
    | (go_at_call 57; go_must (refine (HN u1 w1 ho1.rd).out.mono ?_); rintro e w2 ⟨b, rfl, hb, hg2⟩)
    | (go_at_call 64; go_must (refine (HI b u1 w2 hb (ho1.rd.gr hg2)).out.mono ?_); rintro e w3 ⟨rfl, hg3⟩))
  go_quiet (fail)
  go_wp2
  exact bodyPost_ret (v := .tuple #[.int .u64 n, .bool true]) (by simp [results, Tryd.results45, go_sem]) rfl ⟨rfl, ((hg1.trans hg2).trans hg3).drewN _⟩
end Go.Proofs.YthimnfdoeplebaaDoor
