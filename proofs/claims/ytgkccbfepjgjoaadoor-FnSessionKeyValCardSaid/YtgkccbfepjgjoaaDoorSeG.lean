/- A session's reader of a CLR: the walk. -/
import Derived.Test.YtgkccbfepjgjoaaDoorSeF
namespace Go.Proofs.YtgkccbfepjgjoaaDoor
open Go Go.RowKit

theorem Fx.below {s B : Nat} {a w w' : World} (h : Fx s a w) (hb : Below B w w') (hB : a.heap.size ≤ B) : Fx s a w' :=
  ⟨hb.os.trans h.os, hb.tape.trans h.tape, hb.output.trans h.output, Nat.le_trans h.size hb.size, fun k hk hne => (Below.block hb k (by omega)).trans (h.block k hk hne)⟩
theorem Bf.fx {B t s : Nat} {xs : List Int} {w w' : World} (h : Bf B t xs w) (hf : Fx s w w') (hs : s < B) : Bf B t xs w' := by
  obtain ⟨⟨hB, v, lr, hb, hown, hne⟩, hx⟩ := h
  refine ⟨⟨hB, v, lr, hf.heap hb (by omega), hown.kept hf ?_, hne⟩, hx⟩
  rcases hown.2 with ⟨rfl, _⟩ | ⟨g, cap, cur, rfl, hg, _⟩
  · exact .inl rfl
  · exact .inr (fun e => by simp only [Value.ownBlock, Option.some.injEq] at e; omega)
theorem Bf.gr {B t : Nat} {xs : List Int} {w w' : World} (h : Bf B t xs w) (hf : Gr w w') : Bf B t xs w' := by
  obtain ⟨⟨hB, v, lr, hb, hown, hne⟩, hx⟩ := h
  have h2 := (Own.gr (B := B) (v := v) (xs := xs) ⟨by simpa using hown, hx⟩ hf).1
  exact ⟨⟨hB, v, lr, hf.heap hb, by simpa using h2, hne⟩, hx⟩
theorem Bf.new (w : World) : Bf w.heap.size w.heap.size [] (w.alloc (.cells #[.slice none 0 0, .int .i64 0, .int .i8 0] 79)) := ⟨Lib.fresh_isBuffer _ _ w, fun _ h => by cases h⟩

/-- What a reader of bytes gives, that are the call's own or lie in the input; or its error. -/
def RetX (w : World) (s : Nat) (big : Bool) (ch : Int) (E : Value) (out r : List Int) (e : Ending) (w' : World) : Prop :=
  ∃ u, e = .returned (.tuple #[u, .nilIface]) ∧ Rd w' u out ∧ OffV s u ∧ Ss w' s big ch E r ∧ Fx s w w'
def RetC (w : World) (s : Nat) (big : Bool) (ch : Int) (E : Value) (o : Option (List Int × List Int)) (e : Ending) (w' : World) : Prop :=
  match o with
  | some (l, r) => RetX w s big ch E l r e w'
  | none => RetNo w s big ch E (.slice none 0 0) e w'
theorem RetOk.x {w : World} {s : Nat} {big : Bool} {ch : Int} {E : Value} {out r : List Int} {e : Ending} {w' : World} (h : RetOk w s big ch E out r e w') : RetX w s big ch E out r e w' := by
  obtain ⟨u, h1, h2, h3, h4⟩ := h
  exact ⟨u, h1, h2, h3.off (Nat.le_refl _), h4⟩
theorem RetC.cases {w : World} {s : Nat} {big : Bool} {ch : Int} {E : Value} {o : Option (List Int × List Int)} {e : Ending} {w' : World} (h : RetC w s big ch E o e w') :
    (∃ l r, o = some (l, r) ∧ RetX w s big ch E l r e w') ∨ (o = none ∧ RetNo w s big ch E (.slice none 0 0) e w') := by
  cases o with
  | none => exact .inr ⟨rfl, h⟩
  | some p => exact .inl ⟨p.1, p.2, rfl, h⟩

theorem clr_empty (s : Nat) (big : Bool) (ch : Int) (E : Value) (w : World) (h : Ss w s big ch E []) :
    Calls Tryd.prog 65 #[.pointer (some ⟨s, 0, none⟩)] w (RetC w s big ch E none) := by
  have H := Lib.hid (getByte_no s big ch E w h)
  obtain ⟨T, p, rfl⟩ := h.err
  clear h
  go_enter Tryd.func65, Tryd.ntmps65
  go_wp2_with (first | (go_at_call 63; go_must (refine H.out.mono ?_); rintro e w1 ⟨rfl, hs, hf⟩))
  go_ret2
  exact ⟨rfl, hs, hf⟩

theorem clr_none (s : Nat) (big : Bool) (ch : Int) (E : Value) (b : Int) (t : List Int) (w : World) (h : Ss w s big ch E (b :: t)) (hb : b = 0 ∨ b = 255 ∨ b = 253) :
    Calls Tryd.prog 65 #[.pointer (some ⟨s, 0, none⟩)] w (RetC w s big ch E (some ([], t))) := by
  have H := Lib.hid (getByte_ok s big ch E b t w h)
  clear h
  rcases hb with rfl | rfl | rfl
  all_goals
    go_enter Tryd.func65, Tryd.ntmps65
    go_wp2_with (first | (go_at_call 63; go_must (refine H.out.mono ?_); rintro e w1 ⟨rfl, hs, hf⟩))
    go_ret2
    exact ⟨_, rfl, Rd.nil _, (fun _ _ _ e => by cases e), hs, hf⟩

theorem clr_short (s : Nat) (big : Bool) (ch : Int) (E : Value) (n : Nat) (t : List Int) (w : World) (h : Ss w s big ch E ((n : Int) :: t)) (h1 : 1 ≤ n) (h2 : n ≤ 252) (hn : t.length < n) :
    Calls Tryd.prog 65 #[.pointer (some ⟨s, 0, none⟩)] w (RetC w s big ch E none) := by
  have H := Lib.hid (getByte_ok s big ch E n t w h)
  have HB := fun w hs => Lib.hid (getBytes_no s big ch E t n w hs hn (by omega))
  obtain ⟨T, p, rfl⟩ := h.err
  have e0 : ((n : Int) == 0) = false := by simp; omega
  have e1 : ((n : Int) == 255) = false := by simp; omega
  have e2 : ((n : Int) == 253) = false := by simp; omega
  have e3 : ((n : Int) == 254) = false := by simp; omega
  clear h hn
  go_enter Tryd.func65, Tryd.ntmps65
  go_wp2_with (first
    | (go_at_call 63; go_must (refine H.out.mono ?_); rintro e w1 ⟨rfl, hs, hf⟩)
    | (go_at_call 64; go_must (refine (HB _ (hs.gr ((Gr.refl w1).alloc _))).out.mono ?_); rintro e w2 ⟨rfl, hs2, hf2⟩))
  go_ret2
  exact ⟨rfl, hs2, (hf.alloc _).trans hf2⟩

theorem clr_one (s : Nat) (big : Bool) (ch : Int) (E : Value) (n : Nat) (t : List Int) (w : World) (h : Ss w s big ch E ((n : Int) :: t)) (h1 : 1 ≤ n) (h2 : n ≤ 252) (hn : n ≤ t.length) :
    Calls Tryd.prog 65 #[.pointer (some ⟨s, 0, none⟩)] w (RetC w s big ch E (some (t.take n, t.drop n))) := by
  have H := Lib.hid (getByte_ok s big ch E n t w h)
  have HB := fun w hs => Lib.hid (getBytes_ok s big ch E t n w hs hn)
  have hlen : (t.take n).length ≤ 300 := by rw [List.length_take]; omega
  have e0 : ((n : Int) == 0) = false := by simp; omega
  have e1 : ((n : Int) == 255) = false := by simp; omega
  have e2 : ((n : Int) == 253) = false := by simp; omega
  have e3 : ((n : Int) == 254) = false := by simp; omega
  clear h hn
  generalize t.take n = l at *
  generalize t.drop n = r at *
  go_enter Tryd.func65, Tryd.ntmps65
  go_wp2_with (first
    | (go_at_call 63; go_must (refine H.out.mono ?_); rintro e w1 ⟨rfl, hs, hf⟩; have hlt := hs.lt; have hB := Bf.new w1)
    | (go_at_call 64; go_must (refine (HB _ (hs.gr ((Gr.refl w1).alloc _))).out.mono ?_); rintro e w2 ⟨u, rfl, hu, hlo, hs2, hf2⟩; have hB2 := hB.fx hf2 hlt; have hz2 := hf2.size)
    | (go_at_call 74; go_must (refine (write_lo hB2 (by simp at hz2; omega) hu (fun a n c e => by have := hlo a n c e; omega) (by simp; omega)).mono ?_); rintro e w3 ⟨rfl, hB3, hbel⟩)
    | (go_at_call 46; go_must (refine (bufBytes hB3).mono ?_); rintro e w4 ⟨v4, rfl, ho4, hg4⟩))
  go_ret2
  exact ⟨_, rfl, ho4.rd, ho4.off hlt, (hs2.below hbel hlt).gr hg4, (((hf.alloc _).trans hf2).below hbel hf.size).trans (Fx.of_gr hg4)⟩

theorem partS_none {r : List Int} (h : partN false r = none) : r = [] := by
  cases r with
  | nil => rfl
  | cons b u => cases h
theorem partS_some {r t : List Int} {z : Int} (h : partN false r = some (z, t)) : r = z :: t := by
  cases r with
  | nil => cases h
  | cons b u =>
    injection h with h
    injection h with e1 e2
    subst e1
    subst e2
    rfl

theorem szS_no (s : Nat) (ch : Int) (E : Value) {rc : List Int} (_ : false = true → PkShort rc) (hpart : partN false rc = none) (w : World) (hs : Ss w s false ch E rc) :
    Calls Tryd.prog 63 #[.pointer (some ⟨s, 0, none⟩)] w (RetNo w s false ch E (.int .u8 0)) := by
  obtain rfl := partS_none hpart
  exact getByte_no s false ch E w hs
theorem szS_ok (s : Nat) (ch : Int) (E : Value) {rc t : List Int} {z : Int} (_ : false = true → PkShort rc) (hpart : partN false rc = some (z, t)) (w : World) (hs : Ss w s false ch E rc) :
    Calls Tryd.prog 63 #[.pointer (some ⟨s, 0, none⟩)] w (RetV w s false ch E (.int .u8 z) t) := by
  obtain rfl := partS_some hpart
  exact getByte_ok s false ch E _ _ w hs
theorem szB_no (s : Nat) (ch : Int) (E : Value) {rc : List Int} (hpk : true = true → PkShort rc) (hpart : partN true rc = none) (w : World) (hs : Ss w s true ch E rc) :
    Calls Tryd.prog 69 #[.pointer (some ⟨s, 0, none⟩), .int .i64 4, .bool true, .bool true] w (RetNo w s true ch E (.int .i64 0)) := by
  have := getInt_pk s true ch E 4 true rc w hs (hpk rfl)
  rwa [show rdPk rc = none from hpart] at this
theorem szB_ok (s : Nat) (ch : Int) (E : Value) {rc t : List Int} {z : Int} (hpk : true = true → PkShort rc) (hpart : partN true rc = some (z, t)) (w : World) (hs : Ss w s true ch E rc) :
    Calls Tryd.prog 69 #[.pointer (some ⟨s, 0, none⟩), .int .i64 4, .bool true, .bool true] w (RetV w s true ch E (.int .i64 z) t) := by
  have := getInt_pk s true ch E 4 true rc w hs (hpk rfl)
  rwa [show rdPk rc = some (z, t) from hpart] at this

/-- The loop over the parts. -/
def ClrInv (w : World) (B s : Nat) (big : Bool) (ch : Int) (E : Value) (L : Nat) (o : Option (List Int × List Int)) (k : Nat) (c : Value) (wr : World) : Prop :=
  ∃ acc rc, Bf B B acc wr ∧ Ss wr s big ch E rc ∧ Fx s w wr ∧ B ≤ wr.heap.size ∧ acc.length + rc.length ≤ L ∧ rc.length ≤ k ∧
    ((∃ z : Int, 0 < z ∧ c = .int .i64 z ∧ ∃ o', Parts big rc o' ∧ o = o'.map fun p => (acc ++ p.1, p.2)) ∨ (c = .int .i64 0 ∧ o = some (acc, rc)))

set_option maxRecDepth 100000 in
theorem clr_parts_false (s : Nat) (ch : Int) (E : Value) (t : List Int) (o : Option (List Int × List Int)) (w : World) (h : Ss w s false ch E (254 :: t)) (hp : Parts false t o) :
    Calls Tryd.prog 65 #[.pointer (some ⟨s, 0, none⟩)] w (RetC w s false ch E o) := by
  have H := Lib.hid (getByte_ok s false ch E 254 t w h)
  have hL : t.length ≤ 2147483647 := by have := h.len; simp at this; omega
  obtain ⟨T, pE, rfl⟩ := h.err
  have HP := Lib.hid hp
  clear h hp
  go_enter Tryd.func65, Tryd.ntmps65
  go_wp2_with (first
    | (go_at_call 63; go_must (refine H.out.mono ?_); rintro e w1 ⟨rfl, hs1, hf1⟩; have hsB := hs1.lt; have hB1 := Bf.new w1))
  have hwB := hf1.size
  generalize hbq : w1.heap.size = B at hB1 hsB hwB ⊢
  have HS1 := Lib.hid (hs1.gr ((Gr.refl w1).alloc (.cells #[.slice none 0 0, .int .i64 0, .int .i8 0] 79)))
  have HF1 := Lib.hid (hf1.alloc (.cells #[.slice none 0 0, .int .i64 0, .int .i8 0] 79))
  have HZ1 := Lib.hid (show B ≤ (w1.alloc (.cells #[.slice none 0 0, .int .i64 0, .int .i8 0] 79)).heap.size by simp; omega)
  have HB1 := Lib.hid hB1
  clear hs1 hf1 hbq hB1
  generalize w1.alloc (.cells #[.slice none 0 0, .int .i64 0, .int .i8 0] 79) = W at *
  go_loopg [3, 4, 5, 6] t.length (fun k e _ c _ wr => e = .nilIface ∧ ClrInv w B s false ch (.iface T (.pointer (some pE))) t.length o k c wr)
  case atStart => exact ⟨rfl, [], t, HB1.out, HS1.out, HF1.out, HZ1.out, by simp, Nat.le_refl _, .inl ⟨254, by omega, rfl, o, HP.out, by cases o <;> simp⟩⟩
  case round =>
    obtain ⟨rfl, acc, rc, hB, hs, hF, hzr, hlen, hk, hcase⟩ := hrel
    rcases hcase with ⟨z, hz, rfl, o', hp, ho⟩ | ⟨rfl, ho⟩
    · have k5 := hs.big'
      have HO := Lib.hid ho
      clear ho
      cases hp with
      | torn hpk hpart =>
          have HS := fun w hs => Lib.hid (szS_no s ch (.iface T (.pointer (some pE))) hpk hpart w hs)
          go_wp2_with (first
            | (go_at_call 63; go_must (refine (HS _ hs).out.mono ?_); rintro e wa ⟨rfl, hsa, hfa⟩))
          go_ret2
          rw [HO.out]
          exact ⟨rfl, hsa, hF.trans hfa⟩
      | @last _ t' hpk hpart =>
          have HS := fun w hs => Lib.hid (szS_ok s ch (.iface T (.pointer (some pE))) hpk hpart w hs)
          have hpl := partN_len hpart
          have HG := fun w hs => Lib.hid (getBytes_ok s false ch (.iface T (.pointer (some pE))) t' 0 w hs (Nat.zero_le _))
          rw [List.take_zero, List.drop_zero] at HG
          go_wp2_with (first
            | (go_at_call 63; go_must (refine (HS _ hs).out.mono ?_); rintro e wa ⟨rfl, hsa, hfa⟩; have hBa := hB.fx hfa hsB; have hza := hfa.size)
            | (go_at_call 64; go_must (refine (HG _ hsa).out.mono ?_); rintro e wb ⟨u, rfl, hu, hlo, hsb, hfb⟩; have hBb := hBa.fx hfb hsB; have hzb := hfb.size)
            | (go_at_call 74; go_must (refine (write_lo hBb (by omega) hu (fun a n c e => by have := hlo a n c e; omega) (by simp; omega)).mono ?_); rintro e wc ⟨rfl, hBc, hbel⟩))
          go_roundg t'.length
          case measure => omega
          case rel => exact ⟨rfl, acc, t', by simpa using hBc, hsb.below hbel hsB, ((hF.trans hfa).trans hfb).below hbel hwB, by have := hbel.size; omega, by omega, Nat.le_refl _, .inr ⟨rfl, by rw [HO.out]; simp⟩⟩
      | @short _ t' n hpk hpart hn1 hn2 hn3 =>
          have hn255 : n ≤ 255 := by have e := partS_some hpart; subst e; have := hs.byt n (by simp); omega
          have HS := fun w hs => Lib.hid (szS_ok s ch (.iface T (.pointer (some pE))) hpk hpart w hs)
          have HG := fun w hs => Lib.hid (getBytes_no s false ch (.iface T (.pointer (some pE))) t' n w hs hn3 hn2)
          go_wp2_with (first
            | (go_at_call 63; go_must (refine (HS _ hs).out.mono ?_); rintro e wa ⟨rfl, hsa, hfa⟩)
            | (go_at_call 64; go_must (refine (HG _ hsa).out.mono ?_); rintro e wb ⟨rfl, hsb, hfb⟩))
          go_ret2
          rw [HO.out]
          exact ⟨rfl, hsb, (hF.trans hfa).trans hfb⟩
      | @more _ t' o2 n hpk hpart hn1 hn2 hrest =>
          have hn255 : n ≤ 255 := by have e := partS_some hpart; subst e; have := hs.byt n (by simp); omega
          have HS := fun w hs => Lib.hid (szS_ok s ch (.iface T (.pointer (some pE))) hpk hpart w hs)
          have hpl := partN_len hpart
          have HG := fun w hs => Lib.hid (getBytes_ok s false ch (.iface T (.pointer (some pE))) t' n w hs hn2)
          have HR := Lib.hid hrest
          have l1 : (t'.take n).length = n := by rw [List.length_take]; omega
          have l2 : (t'.drop n).length = t'.length - n := by rw [List.length_drop]
          have HO2 := Lib.hid (show o = (o2.map fun p => (acc ++ t'.take n ++ p.1, p.2)) by rw [HO.out]; cases o2 <;> simp)
          clear hrest HO
          generalize t'.take n = l at *
          generalize t'.drop n = r' at *
          go_wp2_with (first
            | (go_at_call 63; go_must (refine (HS _ hs).out.mono ?_); rintro e wa ⟨rfl, hsa, hfa⟩; have hBa := hB.fx hfa hsB; have hza := hfa.size)
            | (go_at_call 64; go_must (refine (HG _ hsa).out.mono ?_); rintro e wb ⟨u, rfl, hu, hlo, hsb, hfb⟩; have hBb := hBa.fx hfb hsB; have hzb := hfb.size)
            | (go_at_call 74; go_must (refine (write_lo hBb (by omega) hu (fun a n c e => by have := hlo a n c e; omega) (by omega)).mono ?_); rintro e wc ⟨rfl, hBc, hbel⟩))
          go_roundg r'.length
          case measure => omega
          case rel => exact ⟨rfl, acc ++ l, r', hBc, hsb.below hbel hsB, ((hF.trans hfa).trans hfb).below hbel hwB, by have := hbel.size; omega, by rw [List.length_append]; omega, Nat.le_refl _, .inl ⟨n, by omega, rfl, o2, HR.out, HO2.out⟩⟩
    · go_wp2_with (first | (go_at_call 46; go_must (refine (bufBytes hB).mono ?_); rintro e w4 ⟨v4, rfl, ho4, hg4⟩))
      go_ret2
      rw [ho]
      exact ⟨_, rfl, ho4.rd, ho4.off hsB, hs.gr hg4, hF.trans (Fx.of_gr hg4)⟩

set_option maxRecDepth 100000 in
theorem clr_parts_true (s : Nat) (ch : Int) (E : Value) (t : List Int) (o : Option (List Int × List Int)) (w : World) (h : Ss w s true ch E (254 :: t)) (hp : Parts true t o) :
    Calls Tryd.prog 65 #[.pointer (some ⟨s, 0, none⟩)] w (RetC w s true ch E o) := by
  have H := Lib.hid (getByte_ok s true ch E 254 t w h)
  have hL : t.length ≤ 2147483647 := by have := h.len; simp at this; omega
  obtain ⟨T, pE, rfl⟩ := h.err
  have HP := Lib.hid hp
  clear h hp
  go_enter Tryd.func65, Tryd.ntmps65
  go_wp2_with (first
    | (go_at_call 63; go_must (refine H.out.mono ?_); rintro e w1 ⟨rfl, hs1, hf1⟩; have hsB := hs1.lt; have hB1 := Bf.new w1))
  have hwB := hf1.size
  generalize hbq : w1.heap.size = B at hB1 hsB hwB ⊢
  have HS1 := Lib.hid (hs1.gr ((Gr.refl w1).alloc (.cells #[.slice none 0 0, .int .i64 0, .int .i8 0] 79)))
  have HF1 := Lib.hid (hf1.alloc (.cells #[.slice none 0 0, .int .i64 0, .int .i8 0] 79))
  have HZ1 := Lib.hid (show B ≤ (w1.alloc (.cells #[.slice none 0 0, .int .i64 0, .int .i8 0] 79)).heap.size by simp; omega)
  have HB1 := Lib.hid hB1
  clear hs1 hf1 hbq hB1
  generalize w1.alloc (.cells #[.slice none 0 0, .int .i64 0, .int .i8 0] 79) = W at *
  go_loopg [3, 4, 5, 6] t.length (fun k e _ c _ wr => e = .nilIface ∧ ClrInv w B s true ch (.iface T (.pointer (some pE))) t.length o k c wr)
  case atStart => exact ⟨rfl, [], t, HB1.out, HS1.out, HF1.out, HZ1.out, by simp, Nat.le_refl _, .inl ⟨254, by omega, rfl, o, HP.out, by cases o <;> simp⟩⟩
  case round =>
    obtain ⟨rfl, acc, rc, hB, hs, hF, hzr, hlen, hk, hcase⟩ := hrel
    rcases hcase with ⟨z, hz, rfl, o', hp, ho⟩ | ⟨rfl, ho⟩
    · have k5 := hs.big'
      have HO := Lib.hid ho
      clear ho
      cases hp with
      | torn hpk hpart =>
          have HS := fun w hs => Lib.hid (szB_no s ch (.iface T (.pointer (some pE))) hpk hpart w hs)
          go_wp2_with (first
            | (go_at_call 69; go_must (refine (HS _ hs).out.mono ?_); rintro e wa ⟨rfl, hsa, hfa⟩))
          go_ret2
          rw [HO.out]
          exact ⟨rfl, hsa, hF.trans hfa⟩
      | @last _ t' hpk hpart =>
          have HS := fun w hs => Lib.hid (szB_ok s ch (.iface T (.pointer (some pE))) hpk hpart w hs)
          have hpl := partN_len hpart
          have HG := fun w hs => Lib.hid (getBytes_ok s true ch (.iface T (.pointer (some pE))) t' 0 w hs (Nat.zero_le _))
          rw [List.take_zero, List.drop_zero] at HG
          go_wp2_with (first
            | (go_at_call 69; go_must (refine (HS _ hs).out.mono ?_); rintro e wa ⟨rfl, hsa, hfa⟩; have hBa := hB.fx hfa hsB; have hza := hfa.size)
            | (go_at_call 64; go_must (refine (HG _ hsa).out.mono ?_); rintro e wb ⟨u, rfl, hu, hlo, hsb, hfb⟩; have hBb := hBa.fx hfb hsB; have hzb := hfb.size)
            | (go_at_call 74; go_must (refine (write_lo hBb (by omega) hu (fun a n c e => by have := hlo a n c e; omega) (by simp; omega)).mono ?_); rintro e wc ⟨rfl, hBc, hbel⟩))
          go_roundg t'.length
          case measure => omega
          case rel => exact ⟨rfl, acc, t', by simpa using hBc, hsb.below hbel hsB, ((hF.trans hfa).trans hfb).below hbel hwB, by have := hbel.size; omega, by omega, Nat.le_refl _, .inr ⟨rfl, by rw [HO.out]; simp⟩⟩
      | @short _ t' n hpk hpart hn1 hn2 hn3 =>
          have HS := fun w hs => Lib.hid (szB_ok s ch (.iface T (.pointer (some pE))) hpk hpart w hs)
          have HG := fun w hs => Lib.hid (getBytes_no s true ch (.iface T (.pointer (some pE))) t' n w hs hn3 hn2)
          go_wp2_with (first
            | (go_at_call 69; go_must (refine (HS _ hs).out.mono ?_); rintro e wa ⟨rfl, hsa, hfa⟩)
            | (go_at_call 64; go_must (refine (HG _ hsa).out.mono ?_); rintro e wb ⟨rfl, hsb, hfb⟩))
          go_ret2
          rw [HO.out]
          exact ⟨rfl, hsb, (hF.trans hfa).trans hfb⟩
      | @more _ t' o2 n hpk hpart hn1 hn2 hrest =>
          have HS := fun w hs => Lib.hid (szB_ok s ch (.iface T (.pointer (some pE))) hpk hpart w hs)
          have hpl := partN_len hpart
          have HG := fun w hs => Lib.hid (getBytes_ok s true ch (.iface T (.pointer (some pE))) t' n w hs hn2)
          have HR := Lib.hid hrest
          have l1 : (t'.take n).length = n := by rw [List.length_take]; omega
          have l2 : (t'.drop n).length = t'.length - n := by rw [List.length_drop]
          have HO2 := Lib.hid (show o = (o2.map fun p => (acc ++ t'.take n ++ p.1, p.2)) by rw [HO.out]; cases o2 <;> simp)
          clear hrest HO
          generalize t'.take n = l at *
          generalize t'.drop n = r' at *
          go_wp2_with (first
            | (go_at_call 69; go_must (refine (HS _ hs).out.mono ?_); rintro e wa ⟨rfl, hsa, hfa⟩; have hBa := hB.fx hfa hsB; have hza := hfa.size)
            | (go_at_call 64; go_must (refine (HG _ hsa).out.mono ?_); rintro e wb ⟨u, rfl, hu, hlo, hsb, hfb⟩; have hBb := hBa.fx hfb hsB; have hzb := hfb.size)
            | (go_at_call 74; go_must (refine (write_lo hBb (by omega) hu (fun a n c e => by have := hlo a n c e; omega) (by omega)).mono ?_); rintro e wc ⟨rfl, hBc, hbel⟩))
          go_roundg r'.length
          case measure => omega
          case rel => exact ⟨rfl, acc ++ l, r', hBc, hsb.below hbel hsB, ((hF.trans hfa).trans hfb).below hbel hwB, by have := hbel.size; omega, by rw [List.length_append]; omega, Nat.le_refl _, .inl ⟨n, by omega, rfl, o2, HR.out, HO2.out⟩⟩
    · go_wp2_with (first | (go_at_call 46; go_must (refine (bufBytes hB).mono ?_); rintro e w4 ⟨v4, rfl, ho4, hg4⟩))
      go_ret2
      rw [ho]
      exact ⟨_, rfl, ho4.rd, ho4.off hsB, hs.gr hg4, hF.trans (Fx.of_gr hg4)⟩
end Go.Proofs.YtgkccbfepjgjoaaDoor
