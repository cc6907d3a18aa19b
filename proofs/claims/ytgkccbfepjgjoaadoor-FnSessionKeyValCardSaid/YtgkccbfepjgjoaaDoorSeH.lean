/- A session's readers that lean on those of a CLR. -/
import Derived.Test.YtgkccbfepjgjoaaDoorSeG
import Derived.Laws.IdiomStrings
namespace Go.Proofs.YtgkccbfepjgjoaaDoor
open Go Go.RowKit

/-- What a CLR is read as. -/
inductive Clr (big : Bool) : List Int → Option (List Int × List Int) → Prop
  | torn : Clr big [] none
  | null {b t} : b = 0 ∨ b = 255 ∨ b = 253 → Clr big (b :: t) (some ([], t))
  | one {t} {n : Nat} : 1 ≤ n → n ≤ 252 → n ≤ t.length → Clr big ((n : Int) :: t) (some (t.take n, t.drop n))
  | short {t} {n : Nat} : 1 ≤ n → n ≤ 252 → t.length < n → Clr big ((n : Int) :: t) none
  | parts {t o} : Parts big t o → Clr big (254 :: t) o

theorem getClr (s : Nat) (big : Bool) (ch : Int) (E : Value) (r : List Int) (o : Option (List Int × List Int)) (w : World) (h : Ss w s big ch E r) (hc : Clr big r o) :
    Calls Tryd.prog 65 #[.pointer (some ⟨s, 0, none⟩)] w (RetC w s big ch E o) := by
  cases hc with
  | torn => exact clr_empty s big ch E w h
  | null hb => exact clr_none s big ch E _ _ w h hb
  | one h1 h2 h3 => exact clr_one s big ch E _ _ w h h1 h2 h3
  | short h1 h2 h3 => exact clr_short s big ch E _ _ w h h1 h2 h3
  | parts hp =>
    cases big
    · exact clr_parts_false s ch E _ _ w h hp
    · exact clr_parts_true s ch E _ _ w h hp

theorem run_cutH {P : Program} {t : TypeId} (L : U8 P t) (b o N c n : Nat) (J : Int) (hJ : J = (n : Int)) (hin : n ≤ c) (w : World) :
    (Instr.slice t (.slice (some ⟨b, o, none⟩) N c) none (some (.int .i64 J)) none).run P w = .ok (.slice (some ⟨b, o, none⟩) n c) w := by
  subst hJ
  obtain ⟨x, hi, hz, hz1, hz2⟩ := info_parts L.info
  have e2 : (if c = 0 then some (⟨b, o, none⟩ : Addr) else some ((⟨b, o, none⟩ : Addr).add 0)) = some ⟨b, o, none⟩ := by
    rw [Lib.addr_add]
    split <;> rfl
  have e4 : Instr.sliceBound (.int .i64 (n : Int)) c .sliceAcap = pure n := by
    have h2 : (0 : Int) ≤ (n : Int) ∧ (n : Int) ≤ c := by omega
    simp [Instr.sliceBound, asIntOf, h2]
  simp [Instr.slice, Instr.sliceBounds, e4, run_underlying L.under, sizeOf, typeInfo, hi, e2]

/-- What a DLC is read as. -/
inductive Dlc (big : Bool) : List Int → Option (List Int × List Int) → Prop
  | torn {r} : PkShort r → rdPk r = none → Dlc big r none
  | null {r t} : PkShort r → rdPk r = some (0, t) → Dlc big r (some ([], t))
  | some {r t o} {n : Nat} : PkShort r → rdPk r = some ((n : Int), t) → 1 ≤ n → Clr big t o → Dlc big r (o.map fun p => (p.1.take n, p.2))

theorem dlc_torn (s : Nat) (big : Bool) (ch : Int) (E : Value) (r : List Int) (w : World) (h : Ss w s big ch E r) (hpk : PkShort r) (hr : rdPk r = none) :
    Calls Tryd.prog 67 #[.pointer (some ⟨s, 0, none⟩)] w (RetC w s big ch E none) := by
  have H := getInt_pk s big ch E 4 true r w h hpk
  rw [hr] at H
  have H := Lib.hid H
  obtain ⟨T, p, rfl⟩ := h.err
  clear h hr
  go_enter Tryd.func67, Tryd.ntmps67
  go_wp2_with (first | (go_at_call 69; go_must (refine H.out.mono ?_); rintro e w1 ⟨rfl, hs, hf⟩))
  go_ret2
  exact ⟨rfl, hs, hf⟩
theorem dlc_null (s : Nat) (big : Bool) (ch : Int) (E : Value) (r t : List Int) (w : World) (h : Ss w s big ch E r) (hpk : PkShort r) (hr : rdPk r = some (0, t)) :
    Calls Tryd.prog 67 #[.pointer (some ⟨s, 0, none⟩)] w (RetC w s big ch E (some ([], t))) := by
  have H := getInt_pk s big ch E 4 true r w h hpk
  rw [hr] at H
  have H := Lib.hid H
  clear h hr
  go_enter Tryd.func67, Tryd.ntmps67
  go_wp2_with (first | (go_at_call 69; go_must (refine H.out.mono ?_); rintro e w1 ⟨rfl, hs, hf⟩))
  go_ret2
  exact ⟨_, rfl, Rd.nil _, (fun _ _ _ e => by cases e), hs, hf⟩
theorem dlc_err (s : Nat) (big : Bool) (ch : Int) (E : Value) (r t : List Int) (n : Nat) (w : World) (h : Ss w s big ch E r) (hpk : PkShort r) (hr : rdPk r = some ((n : Int), t)) (h1 : 1 ≤ n) (hc : Clr big t none) :
    Calls Tryd.prog 67 #[.pointer (some ⟨s, 0, none⟩)] w (RetC w s big ch E none) := by
  have H := getInt_pk s big ch E 4 true r w h hpk
  rw [hr] at H
  have H := Lib.hid H
  have HC := fun w hs => Lib.hid (getClr s big ch E t none w hs hc)
  have hb := (rdPk_bd hr).2
  obtain ⟨T, p, rfl⟩ := h.err
  clear h hr hc
  go_enter Tryd.func67, Tryd.ntmps67
  go_wp2_with (first
    | (go_at_call 69; go_must (refine H.out.mono ?_); rintro e w1 ⟨rfl, hs, hf⟩)
    | (go_at_call 65; go_must (refine (HC _ hs).out.mono ?_); rintro e w2 ⟨rfl, hs2, hf2⟩))
  go_ret2
  exact ⟨rfl, hs2, hf.trans hf2⟩
theorem dlc_some (s : Nat) (big : Bool) (ch : Int) (E : Value) (r t l q : List Int) (n : Nat) (w : World) (h : Ss w s big ch E r) (hpk : PkShort r) (hr : rdPk r = some ((n : Int), t)) (h1 : 1 ≤ n) (hc : Clr big t (some (l, q))) :
    Calls Tryd.prog 67 #[.pointer (some ⟨s, 0, none⟩)] w (RetC w s big ch E (some (l.take n, q))) := by
  have H := getInt_pk s big ch E 4 true r w h hpk
  rw [hr] at H
  have H := Lib.hid H
  have HC := fun w hs => Lib.hid (getClr s big ch E t (some (l, q)) w hs hc)
  have hb := (rdPk_bd hr).2
  clear h hr hc
  by_cases hlt : n < l.length
  · go_enter Tryd.func67, Tryd.ntmps67
    go_wp2_with (first
      | (go_at_call 69; go_must (refine H.out.mono ?_); rintro e w1 ⟨rfl, hs, hf⟩)
      | (go_at_call 65; go_must (refine (HC _ hs).out.mono ?_); rintro e w2 ⟨u, rfl, hu, ho, hs2, hf2⟩; obtain ⟨b, o, c, rfl, hc1, hm1, hat⟩ := hu.at' (by omega); have hsl := run_cutH (P := Tryd.prog) u8 b o l.length c n n rfl (by omega); have hm2 : c ≤ 9223372036854775807 := (by simp only [maxLen] at hm1; omega)))
    go_ret2
    exact ⟨_, rfl, (hat.take n).rd (by rw [List.length_take]; omega) (by omega) hm1, (fun a m d e => by injection e with e; injection e with e; subst e; exact ho ⟨b, o, none⟩ _ _ rfl), hs2, hf.trans hf2⟩
  · rw [List.take_of_length_le (by omega)]
    go_enter Tryd.func67, Tryd.ntmps67
    go_wp2_with (first
      | (go_at_call 69; go_must (refine H.out.mono ?_); rintro e w1 ⟨rfl, hs, hf⟩)
      | (go_at_call 65; go_must (refine (HC _ hs).out.mono ?_); rintro e w2 ⟨u, rfl, hu, ho, hs2, hf2⟩; obtain ⟨pu, cu, rfl, hcu⟩ := id hu))
    go_ret2
    exact ⟨_, rfl, hu, ho, hs2, hf.trans hf2⟩

theorem getDlc (s : Nat) (big : Bool) (ch : Int) (E : Value) (r : List Int) (o : Option (List Int × List Int)) (w : World) (h : Ss w s big ch E r) (hc : Dlc big r o) :
    Calls Tryd.prog 67 #[.pointer (some ⟨s, 0, none⟩)] w (RetC w s big ch E o) := by
  cases hc with
  | torn h1 h2 => exact dlc_torn s big ch E r w h h1 h2
  | null h1 h2 => exact dlc_null s big ch E r _ w h h1 h2
  | @some t o' n h1 h2 h3 h4 =>
    cases o' with
    | none => exact dlc_err s big ch E r t n w h h1 h2 h3 h4
    | some p => exact dlc_some s big ch E r t p.1 p.2 n w h h1 h2 h3 h4

/-- What a fixed CLR is read as. -/
inductive Fix : List Int → Option (List Int × List Int) → Prop
  | torn : Fix [] none
  | null {b t} : b = 0 ∨ b = 255 ∨ b = 253 → Fix (b :: t) (some ([], t))
  | one {t} {n : Nat} : 1 ≤ n → n ≤ 252 → n ≤ t.length → Fix ((n : Int) :: t) (some (t.take n, t.drop n))
  | short {t} {n : Nat} : 1 ≤ n → n ≤ 252 → t.length < n → Fix ((n : Int) :: t) none
  | cut {t} : rdNum 4 true t = none → Fix (254 :: t) none
  | long {t u} {n : Nat} : rdNum 4 true t = some ((n : Int), u) → n ≤ u.length → Fix (254 :: t) (some (u.take n, u.drop n))
  | less {t u} {n : Nat} : rdNum 4 true t = some ((n : Int), u) → n ≤ 1152921504606846976 → u.length < n → Fix (254 :: t) none

theorem fix_torn (s : Nat) (big : Bool) (ch : Int) (E : Value) (w : World) (h : Ss w s big ch E []) :
    Calls Tryd.prog 72 #[.pointer (some ⟨s, 0, none⟩)] w (RetC w s big ch E none) := by
  have H := Lib.hid (getByte_no s big ch E w h)
  obtain ⟨T, p, rfl⟩ := h.err
  clear h
  go_enter Tryd.func72, Tryd.ntmps72
  go_wp2_with (first | (go_at_call 63; go_must (refine H.out.mono ?_); rintro e w1 ⟨rfl, hs, hf⟩))
  go_ret2
  exact ⟨rfl, hs, hf⟩
theorem fix_null (s : Nat) (big : Bool) (ch : Int) (E : Value) (b : Int) (t : List Int) (w : World) (h : Ss w s big ch E (b :: t)) (hb : b = 0 ∨ b = 255 ∨ b = 253) :
    Calls Tryd.prog 72 #[.pointer (some ⟨s, 0, none⟩)] w (RetC w s big ch E (some ([], t))) := by
  have H := Lib.hid (getByte_ok s big ch E b t w h)
  clear h
  rcases hb with rfl | rfl | rfl
  all_goals
    go_enter Tryd.func72, Tryd.ntmps72
    go_wp2_with (first | (go_at_call 63; go_must (refine H.out.mono ?_); rintro e w1 ⟨rfl, hs, hf⟩))
    go_ret2
    exact ⟨_, rfl, Rd.nil _, (fun _ _ _ e => by cases e), hs, hf⟩
theorem fix_byte (s : Nat) (big : Bool) (ch : Int) (E : Value) (n : Nat) (t : List Int) (o : Option (List Int × List Int)) (w : World) (h : Ss w s big ch E ((n : Int) :: t)) (h1 : 1 ≤ n) (h2 : n ≤ 252)
    (ho : o = if n ≤ t.length then some (t.take n, t.drop n) else none) :
    Calls Tryd.prog 72 #[.pointer (some ⟨s, 0, none⟩)] w (RetC w s big ch E o) := by
  have H := Lib.hid (getByte_ok s big ch E n t w h)
  have e0 : ((n : Int) == 0) = false := by simp; omega
  have e1 : ((n : Int) == 255) = false := by simp; omega
  have e2 : ((n : Int) == 253) = false := by simp; omega
  have e3 : ((n : Int) == 254) = false := by simp; omega
  obtain ⟨T, p, rfl⟩ := h.err
  by_cases hn : n ≤ t.length
  · rw [if_pos hn] at ho
    subst ho
    have HB := fun w hs => Lib.hid (getBytes_ok s big ch (.iface T (.pointer (some p))) t n w hs hn)
    clear h hn
    generalize t.take n = l at *
    generalize t.drop n = r at *
    go_enter Tryd.func72, Tryd.ntmps72
    go_wp2_with (first
      | (go_at_call 63; go_must (refine H.out.mono ?_); rintro e w1 ⟨rfl, hs, hf⟩)
      | (go_at_call 64; go_must (refine (HB _ hs).out.mono ?_); rintro e w2 ⟨u, rfl, hu, hlo, hs2, hf2⟩))
    go_ret2
    exact ⟨u, rfl, hu, hlo.off (Nat.le_refl _), hs2, hf.trans hf2⟩
  · rw [if_neg hn] at ho
    subst ho
    have HB := fun w hs => Lib.hid (getBytes_no s big ch (.iface T (.pointer (some p))) t n w hs (by omega) (by omega))
    clear h hn
    go_enter Tryd.func72, Tryd.ntmps72
    go_wp2_with (first
      | (go_at_call 63; go_must (refine H.out.mono ?_); rintro e w1 ⟨rfl, hs, hf⟩)
      | (go_at_call 64; go_must (refine (HB _ hs).out.mono ?_); rintro e w2 ⟨rfl, hs2, hf2⟩))
    go_ret2
    exact ⟨rfl, hs2, hf.trans hf2⟩
theorem fix_cut (s : Nat) (big : Bool) (ch : Int) (E : Value) (t : List Int) (w : World) (h : Ss w s big ch E (254 :: t)) (hr : rdNum 4 true t = none) :
    Calls Tryd.prog 72 #[.pointer (some ⟨s, 0, none⟩)] w (RetC w s big ch E none) := by
  have H := Lib.hid (getByte_ok s big ch E 254 t w h)
  have HI := fun w hs => Lib.hid (by have := getInt_num s big ch E 4 true t w hs (by omega) (by omega); rw [hr] at this; exact this)
  obtain ⟨T, p, rfl⟩ := h.err
  clear h
  go_enter Tryd.func72, Tryd.ntmps72
  go_wp2_with (first
    | (go_at_call 63; go_must (refine H.out.mono ?_); rintro e w1 ⟨rfl, hs, hf⟩)
    | (go_at_call 69; go_must (refine (HI _ hs).out.mono ?_); rintro e w2 ⟨rfl, hs2, hf2⟩))
  go_ret2
  exact ⟨rfl, hs2, hf.trans hf2⟩
theorem fix_long (s : Nat) (big : Bool) (ch : Int) (E : Value) (t u : List Int) (n : Nat) (o : Option (List Int × List Int)) (w : World) (h : Ss w s big ch E (254 :: t)) (hr : rdNum 4 true t = some ((n : Int), u)) (h2 : n ≤ 1152921504606846976)
    (ho : o = if n ≤ u.length then some (u.take n, u.drop n) else none) :
    Calls Tryd.prog 72 #[.pointer (some ⟨s, 0, none⟩)] w (RetC w s big ch E o) := by
  have H := Lib.hid (getByte_ok s big ch E 254 t w h)
  have HI := fun w hs => Lib.hid (by have := getInt_num s big ch E 4 true t w hs (by omega) (by omega); rw [hr] at this; exact this)
  obtain ⟨T, p, rfl⟩ := h.err
  by_cases hn : n ≤ u.length
  · rw [if_pos hn] at ho
    subst ho
    have HB := fun w hs => Lib.hid (getBytes_ok s big ch (.iface T (.pointer (some p))) u n w hs hn)
    clear h hn
    generalize u.take n = l at *
    generalize u.drop n = r at *
    go_enter Tryd.func72, Tryd.ntmps72
    go_wp2_with (first
      | (go_at_call 63; go_must (refine H.out.mono ?_); rintro e w1 ⟨rfl, hs, hf⟩)
      | (go_at_call 69; go_must (refine (HI _ hs).out.mono ?_); rintro e w2 ⟨rfl, hs2, hf2⟩)
      | (go_at_call 64; go_must (refine (HB _ hs2).out.mono ?_); rintro e w3 ⟨v, rfl, hu, hlo, hs3, hf3⟩))
    go_ret2
    exact ⟨v, rfl, hu, hlo.off (Nat.le_refl _), hs3, (hf.trans hf2).trans hf3⟩
  · rw [if_neg hn] at ho
    subst ho
    have HB := fun w hs => Lib.hid (getBytes_no s big ch (.iface T (.pointer (some p))) u n w hs (by omega) h2)
    clear h hn
    go_enter Tryd.func72, Tryd.ntmps72
    go_wp2_with (first
      | (go_at_call 63; go_must (refine H.out.mono ?_); rintro e w1 ⟨rfl, hs, hf⟩)
      | (go_at_call 69; go_must (refine (HI _ hs).out.mono ?_); rintro e w2 ⟨rfl, hs2, hf2⟩)
      | (go_at_call 64; go_must (refine (HB _ hs2).out.mono ?_); rintro e w3 ⟨rfl, hs3, hf3⟩))
    go_ret2
    exact ⟨rfl, hs3, (hf.trans hf2).trans hf3⟩
theorem getFix (s : Nat) (big : Bool) (ch : Int) (E : Value) (r : List Int) (o : Option (List Int × List Int)) (w : World) (h : Ss w s big ch E r) (hc : Fix r o) :
    Calls Tryd.prog 72 #[.pointer (some ⟨s, 0, none⟩)] w (RetC w s big ch E o) := by
  cases hc with
  | torn => exact fix_torn s big ch E w h
  | null hb => exact fix_null s big ch E _ _ w h hb
  | one h1 h2 h3 => exact fix_byte s big ch E _ _ _ w h h1 h2 (by rw [if_pos h3])
  | short h1 h2 h3 => exact fix_byte s big ch E _ _ _ w h h1 h2 (by rw [if_neg (by omega)])
  | cut hr => exact fix_cut s big ch E _ w h hr
  | @long t u n hr hn =>
    refine fix_long s big ch E _ _ n _ w h hr ?_ (by rw [if_pos hn])
    have : u.length ≤ t.length := by
      simp only [rdNum] at hr
      split at hr
      · injection hr with hr
        injection hr with _ hr
        subst hr
        rw [List.length_drop]; omega
      · cases hr
    have := h.len
    simp at this
    omega
  | less hr h2 hn => exact fix_long s big ch E _ _ _ _ w h hr h2 (by rw [if_neg (by omega)])
end Go.Proofs.YtgkccbfepjgjoaaDoor
