/- A step of the reference's reader is a step of the session. -/
import Derived.Test.YtgkccbfepjgjoaaDoorSeRi
import Derived.Test.YtgkccbfepjgjoaaDoorSeM
import Derived.Test.YtgkccbfepjgjoaaDoorSeMc
import Derived.Test.YtgkccbfepjgjoaaDoorSeMd
namespace Go.Proofs.YtgkccbfepjgjoaaDoor
open Go Go.RowKit

theorem Parts.len' {big : Bool} {r : List Int} {o : Option (List Int × List Int)} (h : Parts big r o) : ∀ p, o = some p → p.1.length + p.2.length ≤ r.length := by
  induction h with
  | torn _ _ => intro p e; cases e
  | last _ h2 => intro p e; injection e with e; subst e; have := partN_len h2; simp; omega
  | short _ _ _ _ _ => intro p e; cases e
  | @more r t o n _ h2 h3 h4 _ ih =>
    intro p e
    cases o with
    | none => cases e
    | some p' =>
      injection e with e
      subst e
      have h5 := ih p' rfl
      have h6 := partN_len h2
      rw [List.length_drop] at h5
      simp only [List.length_append, List.length_take]
      omega
theorem Clr.len' {big : Bool} {r l q : List Int} (h : Clr big r (some (l, q))) : l.length + q.length ≤ r.length := by
  generalize ho : some (l, q) = o at h
  cases h with
  | torn => cases ho
  | null _ => injection ho with ho; injection ho with h1 h2; subst h1; subst h2; simp
  | one _ _ h3 => injection ho with ho; injection ho with h1 h2; subst h1; subst h2; simp only [List.length_take, List.length_drop, List.length_cons]; omega
  | short _ _ _ => cases ho
  | parts hp => have := hp.len' (l, q) ho.symm; simp only [List.length_cons] at this ⊢; omega
theorem dlcLen {big : Bool} {r l q : List Int} (h : Dlc big r (some (l, q))) : l.length + q.length ≤ r.length := by
  generalize ho : some (l, q) = o at h
  cases h with
  | torn _ _ => cases ho
  | null _ h2 => injection ho with ho; injection ho with h1 h2'; subst h1; subst h2'; have := partN_len (big := true) (by rw [partN_true]; exact h2); simp; omega
  | @some t o' n _ h2 h3 h4 =>
    cases o' with
    | none => cases ho
    | some p =>
      injection ho with ho
      injection ho with h1 h2'
      subst h1; subst h2'
      have h5 : p.1.length + p.2.length ≤ t.length := Clr.len' h4
      have h6 := partN_len (big := true) (by rw [partN_true]; exact h2)
      simp only [List.length_take]
      omega
theorem Fix.len' {r l q : List Int} (h : Fix r (some (l, q))) : l.length ≤ r.length := by
  generalize ho : some (l, q) = o at h
  cases h with
  | torn => cases ho
  | null _ => injection ho with ho; injection ho with h1 h2; subst h1; simp
  | one _ _ h3 => injection ho with ho; injection ho with h1 h2; subst h1; simp only [List.length_take, List.length_cons]; omega
  | short _ _ _ => cases ho
  | cut _ => cases ho
  | @long t u n h1 h2 =>
    injection ho with ho; injection ho with h3 h4; subst h3
    unfold rdNum at h1
    split at h1
    · injection h1 with h1; injection h1 with h5 h6; subst h6; simp only [List.length_take, List.length_drop, List.length_cons]; omega
    · cases h1
  | less _ _ _ => cases ho
theorem Dlc.pk {big : Bool} {r : List Int} {o : Option (List Int × List Int)} (h : Dlc big r o) : PkShort r := by
  cases h with
  | torn h _ => exact h
  | null h _ => exact h
  | some h _ _ _ => exact h

/-- What a step of the reference's reader says of the session. -/
def StepR (big : Bool) (x : St) (xs : List Int) (g : G) (q : List Int) (t o : Bool) : Prop :=
  o = true ∨ (o = false ∧ t = false ∧ g.ok = true ∧ Does big x xs (some (g, q))) ∨ (o = false ∧ t = true ∧ g = G.no ∧ Does big x xs none)
theorem StepR.of {big : Bool} {x : St} {xs : List Int} {g : G} {q : List Int} {t o : Bool} (h : o = true ∨ (o = false ∧ t = false ∧ g.ok = true ∧ Does big x xs (some (g, q))) ∨ (o = false ∧ t = true ∧ Does big x xs none)) :
    StepR big x xs (if t = true then G.no else g) q t o := by
  rcases h with h | ⟨h1, rfl, h2, h3⟩ | ⟨h1, rfl, h2⟩
  · exact .inl h
  · exact .inr (.inl ⟨h1, rfl, h2, h3⟩)
  · exact .inr (.inr ⟨h1, rfl, rfl, h2⟩)
theorem RetR.mono {P Q : G → List Int → Bool → Bool → Prop} {w : World} {r : Nat} {e : Ending} {w' : World} (h : RetR P w r e w') (k : ∀ g q t o, P g q t o → Q g q t o) : RetR Q w r e w' := by
  obtain ⟨g, dv, ov, q, t, o, h1, h2, h3, h4, h5, h6, h7, h8, h9⟩ := h
  exact ⟨g, dv, ov, q, t, o, h1, h2, h3, h4, h5, h6, h7, h8, k _ _ _ _ h9⟩

section
variable {r : Nat} {big : Bool} {xs : List Int} {w : World} (h : Sx w r xs false false)
include h
theorem Sx.len2 : xs.length ≤ 2147483647 := by obtain ⟨_, _, _, _, _, hl⟩ := h; exact hl

theorem read0 (sz : Int) (be co : Bool) (hsz : 0 ≤ sz) : Calls Tryd.prog 25 #[.pointer (some ⟨r, 0, none⟩), (St.mk 0 sz be co).val, .bool big] w (RetR (StepR big ⟨0, sz, be, co⟩ xs) w r) := by
  cases xs with
  | nil => exact sr_byte_no r big [] _ sz be co w h (fun W hW => take_no r [] 1 W hW (by simp)) (fun q => .inr (.inr ⟨rfl, rfl, rfl, fun s ch E w hs => gotn_byte s big ch E [] sz be co w hs rfl hsz⟩))
  | cons b t => exact sr_byte_ok r big (b :: t) _ sz be co w h b t (h.byt b (by simp)) (fun W hW => take_one hW) (.inr (.inl ⟨rfl, rfl, rfl, fun s ch E w hs => got_byte s big ch E (b :: t) t b sz be co w hs rfl hsz⟩))

theorem read1 (m : Nat) (hm : m ≤ 1000000) (be co : Bool) : Calls Tryd.prog 25 #[.pointer (some ⟨r, 0, none⟩), (St.mk 1 m be co).val, .bool big] w (RetR (StepR big ⟨1, m, be, co⟩ xs) w r) := by
  have hl := Sx.len2 h
  by_cases hn : m ≤ xs.length
  · exact sr_bytes r big xs _ (fun l q t o => l = xs.take m ∧ q = xs.drop m ∧ t = false ∧ o = false) m be co w h (fun W hW => (take_ok r xs m W hW hn).mono fun e w' h => h.d ⟨rfl, rfl, rfl, rfl⟩)
      (fun l q t o => by
        rintro ⟨rfl, rfl, rfl, rfl⟩
        exact StepR.of (.inr (.inl ⟨rfl, rfl, rfl, fun s ch E w hs => got_bytes s big ch E xs _ _ m be co w hs hn rfl rfl (by rw [List.length_take]; omega)⟩)))
  · exact sr_bytes r big xs _ (fun l q t o => t = true ∧ o = false) m be co w h (fun W hW => (take_no r xs m W hW (by omega)).mono fun e w' h => h.d fun q => ⟨rfl, rfl⟩)
      (fun l q t o => by
        rintro ⟨rfl, rfl⟩
        exact StepR.of (.inr (.inr ⟨rfl, rfl, fun s ch E w hs => gotn_bytes s big ch E xs m be co w hs (by omega) (by omega)⟩)))

theorem read2 (sz : Int) (be co : Bool) (hsz : 0 ≤ sz) : Calls Tryd.prog 25 #[.pointer (some ⟨r, 0, none⟩), (St.mk 2 sz be co).val, .bool big] w (RetR (StepR big ⟨2, sz, be, co⟩ xs) w r) := by
  have hl := Sx.len2 h
  refine sr_clr r big xs _ (LClr big xs) sz be co w h (fun W hW => rclrD r big xs W hW) (fun l q t o hL => StepR.of ?_)
  rcases hL with h1 | ⟨h1, h2, h3⟩ | ⟨h1, h2, h3⟩
  · exact .inl h1
  · exact .inr (.inl ⟨h1, h2, rfl, fun s ch E w hs => got_clr s big ch E xs q l sz be co w hs h3 (by have := h3.len'; omega) hsz⟩)
  · exact .inr (.inr ⟨h1, h2, fun s ch E w hs => gotn_clr s big ch E xs sz be co w hs h3 hsz⟩)

theorem read3 (sz : Int) (be co : Bool) (hsz : 0 ≤ sz) : Calls Tryd.prog 25 #[.pointer (some ⟨r, 0, none⟩), (St.mk 3 sz be co).val, .bool big] w (RetR (StepR big ⟨3, sz, be, co⟩ xs) w r) := by
  have hl := Sx.len2 h
  refine sr_dlc r big xs _ (LDlc big xs) sz be co w h (fun W hW => rdlc_pk r big xs W hW) (fun l q t o hL => StepR.of ?_)
  rcases hL with h1 | ⟨h1, h2, h3⟩ | ⟨h1, h2, h3⟩
  · exact .inl h1
  · exact .inr (.inl ⟨h1, h2, rfl, fun s ch E w hs => got_dlc s big ch E xs q l sz be co w hs h3.pk h3 (by have := dlcLen h3; omega) hsz⟩)
  · exact .inr (.inr ⟨h1, h2, fun s ch E w hs => gotn_dlc s big ch E xs sz be co w hs h3.pk h3 hsz⟩)

theorem read4c (sz : Int) (be : Bool) (hsz : 0 ≤ sz) : Calls Tryd.prog 25 #[.pointer (some ⟨r, 0, none⟩), (St.mk 4 sz be true).val, .bool big] w (RetR (StepR big ⟨4, sz, be, true⟩ xs) w r) := by
  refine sr_pk4 r big xs _ (LPk xs) sz be w h (fun W hW => packedN r xs W hW) (fun z q t o hL => StepR.of ?_)
  rcases hL with h1 | ⟨h1, h2, h3, h4⟩ | ⟨h1, h2, h3, h4⟩
  · exact .inl h1
  · exact .inr (.inl ⟨h1, h2, rfl, fun s ch E w hs => got_i64c s big ch E xs q z sz be w hs h3 h4 hsz⟩)
  · exact .inr (.inr ⟨h1, h2, fun s ch E w hs => gotn_i64c s big ch E xs sz be w hs h3 h4 hsz⟩)
theorem read5c (sz : Int) (be : Bool) (hsz : 0 ≤ sz) : Calls Tryd.prog 25 #[.pointer (some ⟨r, 0, none⟩), (St.mk 5 sz be true).val, .bool big] w (RetR (StepR big ⟨5, sz, be, true⟩ xs) w r) := by
  refine sr_pk5 r big xs _ (LPk xs) sz be w h (fun W hW => packedN r xs W hW) (fun z q t o hL => StepR.of ?_)
  rcases hL with h1 | ⟨h1, h2, h3, h4⟩ | ⟨h1, h2, h3, h4⟩
  · exact .inl h1
  · exact .inr (.inl ⟨h1, h2, rfl, fun s ch E w hs => got_intc s big ch E xs q z sz be w hs h3 h4 hsz⟩)
  · exact .inr (.inr ⟨h1, h2, fun s ch E w hs => gotn_intc s big ch E xs sz be w hs h3 h4 hsz⟩)

/-- A number of some bytes. -/
def LNum (m : Nat) (be : Bool) (xs : List Int) (z : Int) (q : List Int) (t o : Bool) : Prop := o = false ∧ ((t = false ∧ rdNum m be xs = some (wrap64 z, q)) ∨ (t = true ∧ rdNum m be xs = none))
omit h in
theorem numberN (m : Nat) (m1 : 1 ≤ m) (m8 : m ≤ 8) (be : Bool) (W : World) (hW : Sx W r xs false false) :
    Calls Tryd.prog 54 #[.pointer (some ⟨r, 0, none⟩), .int .i64 m, .bool be] W (RetN (LNum m be xs) .u64 W r) := by
  by_cases hn : m ≤ xs.length
  · refine (number_ok r xs m be W hW m1 m8 hn).mono ?_
    rintro e w' ⟨rfl, h1, h2⟩
    exact ⟨_, _, false, false, rfl, h2, h1, rfl, .inl ⟨rfl, by unfold rdNum numV numU; rw [if_pos hn]⟩⟩
  · exact (number_no r xs m be W hW (by omega)).mono fun e w' h => h.n fun q => ⟨rfl, .inr ⟨rfl, by unfold rdNum; rw [if_neg hn]⟩⟩
theorem read4n (m : Nat) (m1 : 1 ≤ m) (m8 : m ≤ 8) (be : Bool) : Calls Tryd.prog 25 #[.pointer (some ⟨r, 0, none⟩), (St.mk 4 m be false).val, .bool big] w (RetR (StepR big ⟨4, m, be, false⟩ xs) w r) := by
  refine sr_num4 r big xs _ (LNum m be xs) m be w h (fun W hW => numberN m m1 m8 be W hW) (fun z q t o hL => StepR.of ?_)
  rcases hL with ⟨h1, ⟨h2, h3⟩ | ⟨h2, h3⟩⟩
  · exact .inr (.inl ⟨h1, h2, rfl, fun s ch E w hs => got_i64n s big ch E xs q _ m be w hs m1 m8 h3⟩)
  · exact .inr (.inr ⟨h1, h2, fun s ch E w hs => gotn_i64n s big ch E xs m be w hs m1 m8 h3⟩)
theorem read5n (m : Nat) (m1 : 1 ≤ m) (m8 : m ≤ 8) (be : Bool) : Calls Tryd.prog 25 #[.pointer (some ⟨r, 0, none⟩), (St.mk 5 m be false).val, .bool big] w (RetR (StepR big ⟨5, m, be, false⟩ xs) w r) := by
  refine sr_num5 r big xs _ (LNum m be xs) m be w h (fun W hW => numberN m m1 m8 be W hW) (fun z q t o hL => StepR.of ?_)
  rcases hL with ⟨h1, ⟨h2, h3⟩ | ⟨h2, h3⟩⟩
  · exact .inr (.inl ⟨h1, h2, rfl, fun s ch E w hs => got_intn s big ch E xs q _ m be w hs m1 m8 h3⟩)
  · exact .inr (.inr ⟨h1, h2, fun s ch E w hs => gotn_intn s big ch E xs m be w hs m1 m8 h3⟩)

def LKv2 (big : Bool) (xs l l2 q : List Int) (t o : Bool) : Prop :=
  o = true ∨ (o = false ∧ t = false ∧ ∃ q1, Dlc big xs (some (l, q1)) ∧ Dlc big q1 (some (l2, q))) ∨ (o = false ∧ t = true ∧ (Dlc big xs none ∨ ∃ q1 l1, Dlc big xs (some (l1, q1)) ∧ Dlc big q1 none))
def LKv3 (big : Bool) (xs l l2 : List Int) (z : Int) (q : List Int) (t o : Bool) : Prop :=
  o = true ∨ (o = false ∧ t = false ∧ ∃ q1 q2, Dlc big xs (some (l, q1)) ∧ Dlc big q1 (some (l2, q2)) ∧ PkShort q2 ∧ rdPk q2 = some (z, q)) ∨
    (o = false ∧ t = true ∧ (Dlc big xs none ∨ (∃ q1 l1, Dlc big xs (some (l1, q1)) ∧ Dlc big q1 none) ∨ ∃ q1 l1 q2 l2, Dlc big xs (some (l1, q1)) ∧ Dlc big q1 (some (l2, q2)) ∧ PkShort q2 ∧ rdPk q2 = none))
theorem read6 (sz : Int) (be co : Bool) (hsz : 0 ≤ sz) : Calls Tryd.prog 25 #[.pointer (some ⟨r, 0, none⟩), (St.mk 6 sz be co).val, .bool big] w (RetR (StepR big ⟨6, sz, be, co⟩ xs) w r) := by
  have hl := Sx.len2 h
  refine sr_kv r big xs _ (LDlc big xs) (LKv2 big xs) (LKv3 big xs) sz be co w h (fun W hW => rdlc_pk r big xs W hW) (fun W l q t o hL hW => ?_) (fun W l l2 q t o hL hW => ?_) (fun l l2 z q t o hL => StepR.of ?_)
  · rcases hL with rfl | ⟨rfl, rfl, h3⟩ | ⟨rfl, rfl, h3⟩
    · exact (rdlc_dead r big q t true W hW (by simp)).mono fun e w' h => h.d fun q => .inl rfl
    · refine (rdlc_pk r big q W hW).mono ?_
      rintro e w' ⟨u, l2, q2, t, o, rfl, a1, a2, a3, a4, a5, a6⟩
      refine ⟨u, l2, q2, t, o, rfl, a1, a2, a3, a4, a5, ?_⟩
      rcases a6 with b1 | ⟨b1, b2, b3⟩ | ⟨b1, b2, b3⟩
      · exact .inl b1
      · exact .inr (.inl ⟨b1, b2, q, h3, b3⟩)
      · exact .inr (.inr ⟨b1, b2, .inr ⟨q, l, h3, b3⟩⟩)
    · exact (rdlc_dead r big q true false W hW rfl).mono fun e w' h => h.d fun q => .inr (.inr ⟨rfl, rfl, .inl h3⟩)
  · rcases hL with rfl | ⟨rfl, rfl, q1, h3, h4⟩ | ⟨rfl, rfl, h3⟩
    · exact (packed_dead' r q t true W hW (by simp)).mono fun e w' h => h.n fun q => .inl rfl
    · refine (packedN r q W hW).mono ?_
      rintro e w' ⟨z, q2, t, o, rfl, a1, a2, a3⟩
      refine ⟨z, q2, t, o, rfl, a1, a2, ?_⟩
      rcases a3 with b1 | ⟨b1, b2, b3, b4⟩ | ⟨b1, b2, b3, b4⟩
      · exact .inl b1
      · exact .inr (.inl ⟨b1, b2, q1, q, h3, h4, b3, b4⟩)
      · exact .inr (.inr ⟨b1, b2, .inr (.inr ⟨q1, l, q, l2, h3, h4, b3, b4⟩)⟩)
    · exact (packed_dead' r q true false W hW rfl).mono fun e w' h => h.n fun q => .inr (.inr ⟨rfl, rfl, h3.elim .inl fun h => .inr (.inl h)⟩)
  · rcases hL with h1 | ⟨h1, h2, q1, q2, h3, h4, h5, h6⟩ | ⟨h1, h2, h3⟩
    · exact .inl h1
    · have e1 := dlcLen h3
      have e2 := dlcLen h4
      have hz := rdPk_bd h6
      exact .inr (.inl ⟨h1, h2, rfl, fun s ch E w hs => got_kv s big ch E xs q l l2 z sz be co w hs (fun w hs => by
        have := keyVal_ok s big ch E xs q1 q2 l l2 _ w hs h3 h4 h5 h6
        simpa using this) (by omega) (by omega) hz.1 hz.2 hsz⟩)
    · refine .inr (.inr ⟨h1, h2, fun s ch E w hs => gotn_kv s big ch E xs sz be co w hs (fun w hs => ?_) hsz⟩)
      rcases h3 with h3 | ⟨q1, l1, h3, h4⟩ | ⟨q1, l1, q2, l2, h3, h4, h5, h6⟩
      · exact keyVal_no1 s big ch E xs w hs h3
      · exact keyVal_no2 s big ch E xs q1 l1 w hs h3 h4
      · have := keyVal_ok s big ch E xs q1 q2 l1 l2 _ w hs h3 h4 h5 h6
        simpa using this

omit h in
theorem zAt_of (l : List Int) : (∃ k, ZAt l k) ∨ ∀ j, j < l.length → l.getD j 0 ≠ 0 := by
  by_cases h : ∃ k, k < l.length ∧ l.getD k 0 = 0
  · left
    obtain ⟨k, hk⟩ := h
    induction k using Nat.strongRecOn with
    | _ k ih =>
      by_cases h2 : ∃ j, j < k ∧ l.getD j 0 = 0
      · obtain ⟨j, hj, h0⟩ := h2
        exact ih j hj ⟨by omega, h0⟩
      · exact ⟨k, hk.1, hk.2, fun j hj h0 => h2 ⟨j, hj, h0⟩⟩
  · exact .inr fun j hj h0 => h ⟨j, hj, h0⟩
omit h in
theorem getD_take {l : List Int} {n j : Nat} (hj : j < n) : (l.take n).getD j 0 = l.getD j 0 := by
  rw [List.getD_eq_getElem?_getD, List.getElem?_take_of_lt hj, ← List.getD_eq_getElem?_getD]
theorem read7 (m : Nat) (hm : m ≤ 1000000) (be co : Bool) : Calls Tryd.prog 25 #[.pointer (some ⟨r, 0, none⟩), (St.mk 7 m be co).val, .bool big] w (RetR (StepR big ⟨7, m, be, co⟩ xs) w r) := by
  have hl := Sx.len2 h
  by_cases hn : m ≤ xs.length
  · have hlt : (xs.take m).length = m := by rw [List.length_take]; omega
    rcases zAt_of (xs.take m) with ⟨k, hz⟩ | hz
    · have hk := hz.1
      rw [hlt] at hk
      have h0 : xs.getD k 0 = 0 := by rw [← getD_take hk]; exact hz.2.1
      have hne : ∀ j, j < k → xs.getD j 0 ≠ 0 := fun j hj => by rw [← getD_take (show j < m by omega)]; exact hz.2.2 j hj
      by_cases hk0 : k = 0
      · subst hk0
        exact sr_text_open r big xs _ m (xs.take m) (xs.drop m) be co w h (fun W hW => take_ok r xs m W hW hn) hz (fun g q t => .inl rfl)
      · have e1 : (xs.take m).take k = xs.take k := by rw [List.take_take, Nat.min_eq_left (by omega)]
        have e2 : (xs.take m).drop (k + 1) ++ xs.drop m = xs.drop (k + 1) := by
          have := List.take_append_drop m xs
          have h3 : (xs.take m ++ xs.drop m).drop (k + 1) = (xs.take m).drop (k + 1) ++ xs.drop m := by rw [List.drop_append_of_le_length (by omega)]
          rw [this] at h3
          exact h3.symm
        refine sr_text_found r big xs _ m k (xs.take m) (xs.drop m) be co w h (fun W hW => take_ok r xs m W hW hn) (by rw [hlt, List.length_drop]; omega) (by omega) hz ?_
        rw [e1, e2]
        exact .inr (.inl ⟨rfl, rfl, rfl, fun s ch E w hs => got_null s big ch E xs _ _ m be co w hs (fun w hs => null_found s big ch E xs m k w hs hn (by omega) hk h0 hne)⟩)
    · rw [hlt] at hz
      refine sr_text_none r big xs _ m (xs.take m) (xs.drop m) be co w h (fun W hW => take_ok r xs m W hW hn) (by rw [hlt]; exact hz) ?_
      exact .inr (.inl ⟨rfl, rfl, rfl, fun s ch E w hs => got_null s big ch E xs _ _ m be co w hs (fun w hs => null_all s big ch E xs m w hs hn (fun j hj => by rw [← getD_take hj]; exact hz j hj))⟩)
  · exact sr_text_torn r big xs _ m be co w h (fun W hW => take_no r xs m W hW (by omega)) (fun q => .inr (.inr ⟨rfl, rfl, rfl, fun s ch E w hs => gotn_null s big ch E xs m be co w hs (by omega) (by omega)⟩))

def LFix (xs l q : List Int) (t o : Bool) : Prop := o = false ∧ ((t = false ∧ Fix xs (some (l, q))) ∨ (t = true ∧ Fix xs none))
def LFix0 (tl : List Int) (n : Nat) (q : List Int) (t o : Bool) : Prop := o = false ∧ n ≤ 4294967295 ∧ ((t = false ∧ rdNum 4 true tl = some ((n : Int), q)) ∨ (t = true ∧ rdNum 4 true tl = none))
theorem read8 (sz : Int) (be co : Bool) (hsz : 0 ≤ sz) : Calls Tryd.prog 25 #[.pointer (some ⟨r, 0, none⟩), (St.mk 8 sz be co).val, .bool big] w (RetR (StepR big ⟨8, sz, be, co⟩ xs) w r) := by
  have hl := Sx.len2 h
  have fin : ∀ l q t o, LFix xs l q t o → StepR big ⟨8, sz, be, co⟩ xs (if t = true then G.no else ⟨true, l, [], 0, ⟨#[]⟩⟩) q t o := fun l q t o hL => StepR.of (by
    rcases hL with ⟨h1, ⟨h2, h3⟩ | ⟨h2, h3⟩⟩
    · exact .inr (.inl ⟨h1, h2, rfl, fun s ch E w hs => got_fix s big ch E xs q l sz be co w hs h3 (by have := h3.len'; omega) hsz⟩)
    · exact .inr (.inr ⟨h1, h2, fun s ch E w hs => gotn_fix s big ch E xs sz be co w hs h3 hsz⟩))
  cases xs with
  | nil => exact sr_fix_torn r big [] _ sz be co w h (fun W hW => take_no r [] 1 W hW (by simp)) (fun q => fin [] q true false ⟨rfl, .inr ⟨rfl, .torn⟩⟩)
  | cons b tl =>
    have hb := h.byt b (by simp)
    by_cases h1 : b = 0 ∨ b = 255 ∨ b = 253
    · exact sr_fix_null r big (b :: tl) _ b tl sz be co w h (fun W hW => take_one hW) h1 (fin [] tl false false ⟨rfl, .inl ⟨rfl, .null h1⟩⟩)
    · by_cases h2 : b = 254
      · subst h2
        refine sr_fix_long r big (254 :: tl) _ (LFix (254 :: tl)) (LFix0 tl) tl sz be co w h (fun W hW => take_one hW) (fun W hW => ?_) (fun W n q t o hL hW => ?_) fin
        · have hbt : Byt tl := fun y hy => hW.byt y hy
          by_cases hn : 4 ≤ tl.length
          · refine (number_ok r tl 4 true W hW (by omega) (by omega) hn).mono ?_
            rintro e w' ⟨rfl, a1, a2⟩
            have hbd := leZ_bd (tl.take 4).reverse (fun y hy => hbt y (List.mem_of_mem_take (List.mem_reverse.1 hy)))
            rw [← beZ_le, List.length_reverse, List.length_take, Nat.min_eq_left hn] at hbd
            have hbd2 : 0 ≤ numU true (tl.take 4) ∧ numU true (tl.take 4) < 4294967296 := by unfold numU; rw [if_pos rfl]; exact ⟨hbd.1, by have := hbd.2; omega⟩
            have hv : numV true (tl.take 4) = numU true (tl.take 4) := by
              have e1 : numV true (tl.take 4) = wrap64 (numU true (tl.take 4)) := rfl
              rw [e1]
              unfold wrap64
              omega
            obtain ⟨n, hn2⟩ : ∃ n : Nat, numU true (tl.take 4) = (n : Int) := ⟨(numU true (tl.take 4)).toNat, by omega⟩
            refine ⟨n, tl.drop 4, false, false, by rw [hn2], by omega, a2, a1, rfl, by omega, .inl ⟨rfl, ?_⟩⟩
            unfold rdNum
            rw [if_pos hn, hv, hn2]
          · refine (number_no r tl 4 true W hW (by omega)).mono ?_
            rintro e w' ⟨rfl, ⟨q, a1⟩, a2⟩
            exact ⟨0, q, true, false, rfl, by omega, a2, a1, rfl, by omega, .inr ⟨rfl, by unfold rdNum; rw [if_neg hn]⟩⟩
        · obtain ⟨rfl, hn, ⟨rfl, h3⟩ | ⟨rfl, h3⟩⟩ := hL
          · by_cases hq : n ≤ q.length
            · exact (take_ok r q n W hW hq).mono fun e w' h => h.d ⟨rfl, .inl ⟨rfl, .long h3 hq⟩⟩
            · exact (take_no r q n W hW (by omega)).mono fun e w' h => h.d fun q' => ⟨rfl, .inr ⟨rfl, .less h3 (by omega) (by omega)⟩⟩
          · exact (take_dead r q n true false W hW rfl).mono fun e w' h => h.d fun q' => ⟨rfl, .inr ⟨rfl, .cut h3⟩⟩
      · obtain ⟨n, rfl⟩ : ∃ n : Nat, b = (n : Int) := ⟨b.toNat, by omega⟩
        refine sr_fix_one r big ((n : Int) :: tl) _ (LFix ((n : Int) :: tl)) n tl sz be co w h (fun W hW => take_one hW) ⟨by omega, by omega⟩ (fun W hW => ?_) fin
        by_cases hq : n ≤ tl.length
        · exact (take_ok r tl n W hW hq).mono fun e w' h => h.d ⟨rfl, .inl ⟨rfl, .one (by omega) (by omega) hq⟩⟩
        · exact (take_no r tl n W hW (by omega)).mono fun e w' h => h.d fun q' => ⟨rfl, .inr ⟨rfl, .short (by omega) (by omega) (by omega)⟩⟩

theorem read9 (m : Nat) (hm : m ≤ 1000000) (be co : Bool) : Calls Tryd.prog 25 #[.pointer (some ⟨r, 0, none⟩), (St.mk 9 m be co).val, .bool big] w (RetR (StepR big ⟨9, m, be, co⟩ xs) w r) := by
  have hl := Sx.len2 h
  by_cases hn : m ≤ xs.length
  · exact sr_peek_ok r big xs _ m be co w h (fun W hW => take_ok r xs m W hW hn) (.inr (.inl ⟨rfl, rfl, rfl, fun s ch E w hs => got_peek s big ch E xs xs _ m be co w hs hn rfl rfl (by rw [List.length_take]; omega)⟩))
  · exact sr_peek_no r big xs _ m be co w h (fun W hW => take_no r xs m W hW (by omega)) (.inr (.inr ⟨rfl, rfl, rfl, fun s ch E w hs => gotn_peek s big ch E xs m be co w hs (by omega) (by omega)⟩))

/-- The steps that are asked for. -/
def St.Ask (x : St) : Prop := 0 ≤ x.k ∧ x.k ≤ 9 ∧ 0 ≤ x.sz ∧ x.sz ≤ 255 ∧ ((x.k = 4 ∨ x.k = 5) → 1 ≤ x.sz ∧ x.sz ≤ 8)
theorem sessionRead (x : St) (hx : x.Ask) : Calls Tryd.prog 25 #[.pointer (some ⟨r, 0, none⟩), x.val, .bool big] w (RetR (StepR big x xs) w r) := by
  obtain ⟨k, sz, be, co⟩ := x
  obtain ⟨h0, h9, hs0, hs1, h45⟩ := hx
  simp only at h0 h9 hs0 hs1 h45
  obtain ⟨m, rfl⟩ : ∃ m : Nat, sz = (m : Int) := ⟨sz.toNat, by omega⟩
  rcases (by omega : k = 0 ∨ k = 1 ∨ k = 2 ∨ k = 3 ∨ k = 4 ∨ k = 5 ∨ k = 6 ∨ k = 7 ∨ k = 8 ∨ k = 9) with rfl | rfl | rfl | rfl | rfl | rfl | rfl | rfl | rfl | rfl
  · exact read0 h _ be co hs0
  · exact read1 h m (by omega) be co
  · exact read2 h _ be co hs0
  · exact read3 h _ be co hs0
  · have := h45 (.inl rfl)
    cases co
    · exact read4n h m (by omega) (by omega) be
    · exact read4c h _ be hs0
  · have := h45 (.inr rfl)
    cases co
    · exact read5n h m (by omega) (by omega) be
    · exact read5c h _ be hs0
  · exact read6 h _ be co hs0
  · exact read7 h m (by omega) be co
  · exact read8 h _ be co hs0
  · exact read9 h m (by omega) be co
end
end Go.Proofs.YtgkccbfepjgjoaaDoor
