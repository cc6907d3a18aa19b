/- Several texts in one (merge.py): SeF, SeG, SeH, SeI, SeJ, SeK. -/
import Derived.Test.YtgkccbfepjgjoaaDoorSeMa
import Derived.Lib.Buffer
import Derived.Lib.BufferWrite
import Derived.Lib.BufferOwn
import Derived.Deep.LoopGhost
import Derived.Deep.CutRange
import Derived.Laws.IdiomStrings
import Derived.LoopTactic
import Derived.Deep.RegionHeld3
/- A session's reader of a CLR: a buffer that is filled part by part. -/
namespace Go.Proofs.YtgkccbfepjgjoaaDoor
open Go Go.RowKit

/-- A buffer of the call's own in block t that holds bytes. -/
def Bf (B t : Nat) (xs : List Int) (w : World) : Prop := Lib.IsBuffer 79 5 B t (xs.map (Value.int .u8)) w ∧ Byt xs

theorem one_cells' (ys : List Int) : ∀ u ∈ ys.map (Value.int .u8), u.oneCell' = true := one_cells ys

/-- Write of no bytes. -/
theorem write_none {B b : Nat} {xs : List Int} {w : World} (p : Option Addr) (c : Nat) (hb : Bf B b xs w) (_hB : B ≤ w.heap.size) :
    Calls Tryd.prog 74 #[.pointer (some ⟨b, 0, none⟩), .slice p 0 c] w fun e w' => e = .returned (.tuple #[.int .i64 0, .nilIface]) ∧ Bf B b xs w' ∧ Below B w w' := by
  obtain ⟨hb, hx⟩ := hb
  have h0 := hb
  obtain ⟨hBb, v0, lr, hbk, hown, hne⟩ := hb
  have c2 : w.cell? ⟨b, 2, none⟩ = some (.int .i8 lr) := (blk_cell hbk 2).trans rfl
  have f2 := blk_free hbk 2
  have hI : Lib.IsBuffer 79 5 B b (xs.map (Value.int .u8)) (w.setCell ⟨b, 2, none⟩ (.int .i8 0)) := by
    refine ⟨hBb, v0, 0, ?_, hown.kept (Lib.grownBy_setCell w b 2 _) (Or.inr hne), hne⟩
    rw [blk_set hbk]; rfl
  have hbel0 : Below B w (w.setCell ⟨b, 2, none⟩ (.int .i8 0)) := (Below.refl B w).setCell (p := ⟨b, 2, none⟩) hBb _
  have hce : ∀ d dLen dCap W, (Builtin.copy_ #[24, 24] 3 #[.slice d dLen dCap, .slice p 0 c]).run Tryd.prog W = .ok (goInt 0) W := fun d dLen dCap W => run_copy_none W 24 24 3 5 d p dLen dCap 0 c Tryd.underlying24 u8size (by simp)
  have HT := fun W hW => Lib.hid (Tryd.Buffer_tryGrow_own B b 0 (xs.map (Value.int .u8)) W hW)
  have HI := Lib.hid hI
  have HB0 := Lib.hid hbel0
  clear hI hbel0 h0 hown hbk hne
  go_enter Tryd.func74, Tryd.ntmps74
  go_wp2_with (first | (go_at_call 89; go_must (refine (HT _ HI.out).out.mono ?_)))
  rintro e W1 (⟨rfl, ys, hxl, hI2, hbel, hk, hg⟩ | ⟨rfl, rfl, hnr⟩)
  · have hx0 : ys = [] := List.eq_nil_of_length_eq_zero hxl
    subst hx0
    rw [List.append_nil] at hI2
    obtain ⟨-, v1, lr1, hbk1, hown1, hne1⟩ := id hI2
    have d0 : W1.cell? ⟨b, 0, none⟩ = some v1 := (blk_cell hbk1 0).trans rfl
    have hlen : (xs.map (Value.int .u8)).length = xs.length := by simp
    rw [hlen] at hown1 ⊢
    have HI2 := Lib.hid hI2
    have HB2 := Lib.hid hbel
    clear hI2 hbel hk hg hbk1
    rcases hown1.2 with ⟨rfl, hn0⟩ | ⟨g, cap, cur, rfl, _, _, hnc, hcm, _⟩
    · rw [hn0]
      clear hown1
      go_wp2
      go_ret2
      exact ⟨rfl, ⟨HI2.out, hx⟩, HB0.out.trans HB2.out⟩
    · clear hown1
      simp only [maxLen] at hcm
      go_wp2
      all_goals
        go_ret2
        exact ⟨rfl, ⟨HI2.out, hx⟩, HB0.out.trans HB2.out⟩
  · obtain ⟨_, _, _, _, hlt⟩ := hnr
    omega

/-- Write of bytes that lie ahead of the buffer. -/
theorem write_lo {B b : Nat} {xs l : List Int} {w : World} {v : Value} (hb : Bf B b xs w) (hB : B ≤ w.heap.size) (hv : Rd w v l) (hlo : LoV B v) (hlim : xs.length + l.length ≤ 140737488355328) :
    Calls Tryd.prog 74 #[.pointer (some ⟨b, 0, none⟩), v] w fun e w' => e = .returned (.tuple #[.int .i64 l.length, .nilIface]) ∧ Bf B b (xs ++ l) w' ∧ Below B w w' := by
  obtain ⟨p, c, rfl, hc, hm, hnil, hbi, hby⟩ := hv
  by_cases h0 : l.length = 0
  · obtain rfl : l = [] := List.eq_nil_of_length_eq_zero h0
    rw [List.append_nil]
    exact write_none p c hb hB
  · obtain ⟨g0, o0, rfl, hcell⟩ := hbi (by omega)
    have hne : g0 ≠ b := by
      have := hlo _ _ _ rfl
      have h2 := hb.1.1
      simp only at this
      omega
    refine (Tryd.Buffer_Write_any B b _ (l.map (Value.int .u8)) ⟨g0, o0, none⟩ _ c w hb.1 hB (one_cells _) (by simp) hne ?_ (one_cells _) (by simpa using hlim)).mono fun e w' => ?_
    · exact src_cells ⟨hcell, hby⟩
    · rintro ⟨h1, h2, h3, _⟩
      exact ⟨h1, ⟨by rw [List.map_append]; exact h2, byt_append hb.2 hby⟩, h3⟩

theorem bufBytes {B b : Nat} {xs : List Int} {w : World} (hb : Bf B b xs w) :
    Calls Tryd.prog 46 #[.pointer (some ⟨b, 0, none⟩)] w fun e w' => ∃ v, e = .returned v ∧ Own B w' v xs ∧ Gr w w' := by
  refine (Tryd.Buffer_Bytes B b _ w hb.1).mono fun e w' => ?_
  rintro ⟨v, rfl, h1, n, rfl⟩
  rw [List.length_map] at h1
  exact ⟨v, rfl, ⟨h1, hb.2⟩, (Gr.refl w).drewN n⟩

/-- How many bytes the next part has. -/
def partN (big : Bool) (r : List Int) : Option (Int × List Int) := if big = true then rdPk r else match r with | [] => none | b :: t => some (b, t)

/-- What the parts of a CLR are read as: the derivations are those inputs of which something is said. -/
inductive Parts (big : Bool) : List Int → Option (List Int × List Int) → Prop
  | torn {r} : (big = true → PkShort r) → partN big r = none → Parts big r none
  | last {r t} : (big = true → PkShort r) → partN big r = some (0, t) → Parts big r (some ([], t))
  | short {r t} {n : Nat} : (big = true → PkShort r) → partN big r = some ((n : Int), t) → 1 ≤ n → n ≤ 1152921504606846976 → t.length < n → Parts big r none
  | more {r t o} {n : Nat} : (big = true → PkShort r) → partN big r = some ((n : Int), t) → 1 ≤ n → n ≤ t.length → Parts big (t.drop n) o → Parts big r (o.map fun p => (t.take n ++ p.1, p.2))

theorem partN_len {big : Bool} {r t : List Int} {z : Int} (h : partN big r = some (z, t)) : t.length < r.length := by
  unfold partN at h
  split at h
  · cases r with
    | nil => cases h
    | cons b u =>
      simp only [rdPk] at h
      split at h
      · injection h with h
        injection h with _ h
        subst h
        simp
        omega
      · cases h
  · cases r with
    | nil => cases h
    | cons b u =>
      injection h with h
      injection h with _ h
      subst h
      simp
end Go.Proofs.YtgkccbfepjgjoaaDoor

/- A session's reader of a CLR: the walk. -/
namespace Go.Proofs.YtgkccbfepjgjoaaDoor
open Go Go.RowKit

theorem Fx.below {s B : Nat} {a w w' : World} (h : Fx s a w) (hb : Below B w w') (hB : a.heap.size ≤ B) : Fx s a w' :=
  ⟨hb.os.trans h.os, hb.tape.trans h.tape, hb.output.trans h.output, Nat.le_trans h.size hb.size, fun k hk hne => (Below.block hb k (by omega)).trans (h.block k hk hne)⟩
theorem Bf.fx {B t s : Nat} {xs : List Int} {w w' : World} (h : Bf B t xs w) (hf : Fx s w w') (hs : s < B) : Bf B t xs w' := by
  obtain ⟨⟨hB, v, lr, hb, hown, hne⟩, hx⟩ := h
  refine ⟨⟨hB, v, lr, hf.heap hb (by omega), hown.kept hf ?_, hne⟩, hx⟩
  rcases hown.2 with ⟨rfl, _⟩ | ⟨g, cap, cur, rfl, hg, _⟩
  · exact .inl rfl
  · exact .inr (fun e => by simp only [Value.ownBlock, Option.some.injEq] at e; omega)
theorem Bf.gr {B t : Nat} {xs : List Int} {w w' : World} (h : Bf B t xs w) (hf : Gr w w') : Bf B t xs w' := by
  obtain ⟨⟨hB, v, lr, hb, hown, hne⟩, hx⟩ := h
  have h2 := (Own.gr (B := B) (v := v) (xs := xs) ⟨by simpa using hown, hx⟩ hf).1
  exact ⟨⟨hB, v, lr, hf.heap hb, by simpa using h2, hne⟩, hx⟩
theorem Bf.new (w : World) : Bf w.heap.size w.heap.size [] (w.alloc (.cells #[.slice none 0 0, .int .i64 0, .int .i8 0] 79)) := ⟨Lib.fresh_isBuffer _ _ w, fun _ h => by cases h⟩

/-- What a reader of bytes gives, that are the call's own or lie in the input; or its error. -/
def RetX (w : World) (s : Nat) (big : Bool) (ch : Int) (E : Value) (out r : List Int) (e : Ending) (w' : World) : Prop :=
  ∃ u, e = .returned (.tuple #[u, .nilIface]) ∧ Rd w' u out ∧ OffV s u ∧ Ss w' s big ch E r ∧ Fx s w w'
def RetC (w : World) (s : Nat) (big : Bool) (ch : Int) (E : Value) (o : Option (List Int × List Int)) (e : Ending) (w' : World) : Prop :=
  match o with
  | some (l, r) => RetX w s big ch E l r e w'
  | none => RetNo w s big ch E (.slice none 0 0) e w'
theorem RetOk.x {w : World} {s : Nat} {big : Bool} {ch : Int} {E : Value} {out r : List Int} {e : Ending} {w' : World} (h : RetOk w s big ch E out r e w') : RetX w s big ch E out r e w' := by
  obtain ⟨u, h1, h2, h3, h4⟩ := h
  exact ⟨u, h1, h2, h3.off (Nat.le_refl _), h4⟩
theorem RetC.cases {w : World} {s : Nat} {big : Bool} {ch : Int} {E : Value} {o : Option (List Int × List Int)} {e : Ending} {w' : World} (h : RetC w s big ch E o e w') :
    (∃ l r, o = some (l, r) ∧ RetX w s big ch E l r e w') ∨ (o = none ∧ RetNo w s big ch E (.slice none 0 0) e w') := by
  cases o with
  | none => exact .inr ⟨rfl, h⟩
  | some p => exact .inl ⟨p.1, p.2, rfl, h⟩

theorem clr_empty (s : Nat) (big : Bool) (ch : Int) (E : Value) (w : World) (h : Ss w s big ch E []) :
    Calls Tryd.prog 65 #[.pointer (some ⟨s, 0, none⟩)] w (RetC w s big ch E none) := by
  have H := Lib.hid (getByte_no s big ch E w h)
  obtain ⟨T, p, rfl⟩ := h.err
  clear h
  go_enter Tryd.func65, Tryd.ntmps65
  go_wp2_with (first | (go_at_call 63; go_must (refine H.out.mono ?_); rintro e w1 ⟨rfl, hs, hf⟩))
  go_ret2
  exact ⟨rfl, hs, hf⟩

theorem clr_none (s : Nat) (big : Bool) (ch : Int) (E : Value) (b : Int) (t : List Int) (w : World) (h : Ss w s big ch E (b :: t)) (hb : b = 0 ∨ b = 255 ∨ b = 253) :
    Calls Tryd.prog 65 #[.pointer (some ⟨s, 0, none⟩)] w (RetC w s big ch E (some ([], t))) := by
  have H := Lib.hid (getByte_ok s big ch E b t w h)
  clear h
  rcases hb with rfl | rfl | rfl
  all_goals
    go_enter Tryd.func65, Tryd.ntmps65
    go_wp2_with (first | (go_at_call 63; go_must (refine H.out.mono ?_); rintro e w1 ⟨rfl, hs, hf⟩))
    go_ret2
    exact ⟨_, rfl, Rd.nil _, (fun _ _ _ e => by cases e), hs, hf⟩

theorem clr_short (s : Nat) (big : Bool) (ch : Int) (E : Value) (n : Nat) (t : List Int) (w : World) (h : Ss w s big ch E ((n : Int) :: t)) (h1 : 1 ≤ n) (h2 : n ≤ 252) (hn : t.length < n) :
    Calls Tryd.prog 65 #[.pointer (some ⟨s, 0, none⟩)] w (RetC w s big ch E none) := by
  have H := Lib.hid (getByte_ok s big ch E n t w h)
  have HB := fun w hs => Lib.hid (getBytes_no s big ch E t n w hs hn (by omega))
  obtain ⟨T, p, rfl⟩ := h.err
  have e0 : ((n : Int) == 0) = false := by simp; omega
  have e1 : ((n : Int) == 255) = false := by simp; omega
  have e2 : ((n : Int) == 253) = false := by simp; omega
  have e3 : ((n : Int) == 254) = false := by simp; omega
  clear h hn
  go_enter Tryd.func65, Tryd.ntmps65
  go_wp2_with (first
    | (go_at_call 63; go_must (refine H.out.mono ?_); rintro e w1 ⟨rfl, hs, hf⟩)
    | (go_at_call 64; go_must (refine (HB _ (hs.gr ((Gr.refl w1).alloc _))).out.mono ?_); rintro e w2 ⟨rfl, hs2, hf2⟩))
  go_ret2
  exact ⟨rfl, hs2, (hf.alloc _).trans hf2⟩

theorem clr_one (s : Nat) (big : Bool) (ch : Int) (E : Value) (n : Nat) (t : List Int) (w : World) (h : Ss w s big ch E ((n : Int) :: t)) (h1 : 1 ≤ n) (h2 : n ≤ 252) (hn : n ≤ t.length) :
    Calls Tryd.prog 65 #[.pointer (some ⟨s, 0, none⟩)] w (RetC w s big ch E (some (t.take n, t.drop n))) := by
  have H := Lib.hid (getByte_ok s big ch E n t w h)
  have HB := fun w hs => Lib.hid (getBytes_ok s big ch E t n w hs hn)
  have hlen : (t.take n).length ≤ 300 := by rw [List.length_take]; omega
  have e0 : ((n : Int) == 0) = false := by simp; omega
  have e1 : ((n : Int) == 255) = false := by simp; omega
  have e2 : ((n : Int) == 253) = false := by simp; omega
  have e3 : ((n : Int) == 254) = false := by simp; omega
  clear h hn
  generalize t.take n = l at *
  generalize t.drop n = r at *
  go_enter Tryd.func65, Tryd.ntmps65
  go_wp2_with (first
    | (go_at_call 63; go_must (refine H.out.mono ?_); rintro e w1 ⟨rfl, hs, hf⟩; have hlt := hs.lt; have hB := Bf.new w1)
    | (go_at_call 64; go_must (refine (HB _ (hs.gr ((Gr.refl w1).alloc _))).out.mono ?_); rintro e w2 ⟨u, rfl, hu, hlo, hs2, hf2⟩; have hB2 := hB.fx hf2 hlt; have hz2 := hf2.size)
    | (go_at_call 74; go_must (refine (write_lo hB2 (by simp at hz2; omega) hu (fun a n c e => by have := hlo a n c e; omega) (by simp; omega)).mono ?_); rintro e w3 ⟨rfl, hB3, hbel⟩)
    | (go_at_call 46; go_must (refine (bufBytes hB3).mono ?_); rintro e w4 ⟨v4, rfl, ho4, hg4⟩))
  go_ret2
  exact ⟨_, rfl, ho4.rd, ho4.off hlt, (hs2.below hbel hlt).gr hg4, (((hf.alloc _).trans hf2).below hbel hf.size).trans (Fx.of_gr hg4)⟩

theorem partS_none {r : List Int} (h : partN false r = none) : r = [] := by
  cases r with
  | nil => rfl
  | cons b u => cases h
theorem partS_some {r t : List Int} {z : Int} (h : partN false r = some (z, t)) : r = z :: t := by
  cases r with
  | nil => cases h
  | cons b u =>
    injection h with h
    injection h with e1 e2
    subst e1
    subst e2
    rfl

theorem szS_no (s : Nat) (ch : Int) (E : Value) {rc : List Int} (_ : false = true → PkShort rc) (hpart : partN false rc = none) (w : World) (hs : Ss w s false ch E rc) :
    Calls Tryd.prog 63 #[.pointer (some ⟨s, 0, none⟩)] w (RetNo w s false ch E (.int .u8 0)) := by
  obtain rfl := partS_none hpart
  exact getByte_no s false ch E w hs
theorem szS_ok (s : Nat) (ch : Int) (E : Value) {rc t : List Int} {z : Int} (_ : false = true → PkShort rc) (hpart : partN false rc = some (z, t)) (w : World) (hs : Ss w s false ch E rc) :
    Calls Tryd.prog 63 #[.pointer (some ⟨s, 0, none⟩)] w (RetV w s false ch E (.int .u8 z) t) := by
  obtain rfl := partS_some hpart
  exact getByte_ok s false ch E _ _ w hs
theorem szB_no (s : Nat) (ch : Int) (E : Value) {rc : List Int} (hpk : true = true → PkShort rc) (hpart : partN true rc = none) (w : World) (hs : Ss w s true ch E rc) :
    Calls Tryd.prog 69 #[.pointer (some ⟨s, 0, none⟩), .int .i64 4, .bool true, .bool true] w (RetNo w s true ch E (.int .i64 0)) := by
  have := getInt_pk s true ch E 4 true rc w hs (hpk rfl)
  rwa [show rdPk rc = none from hpart] at this
theorem szB_ok (s : Nat) (ch : Int) (E : Value) {rc t : List Int} {z : Int} (hpk : true = true → PkShort rc) (hpart : partN true rc = some (z, t)) (w : World) (hs : Ss w s true ch E rc) :
    Calls Tryd.prog 69 #[.pointer (some ⟨s, 0, none⟩), .int .i64 4, .bool true, .bool true] w (RetV w s true ch E (.int .i64 z) t) := by
  have := getInt_pk s true ch E 4 true rc w hs (hpk rfl)
  rwa [show rdPk rc = some (z, t) from hpart] at this

/-- The loop over the parts. -/
def ClrInv (w : World) (B s : Nat) (big : Bool) (ch : Int) (E : Value) (L : Nat) (o : Option (List Int × List Int)) (k : Nat) (c : Value) (wr : World) : Prop :=
  ∃ acc rc, Bf B B acc wr ∧ Ss wr s big ch E rc ∧ Fx s w wr ∧ B ≤ wr.heap.size ∧ acc.length + rc.length ≤ L ∧ rc.length ≤ k ∧
    ((∃ z : Int, 0 < z ∧ c = .int .i64 z ∧ ∃ o', Parts big rc o' ∧ o = o'.map fun p => (acc ++ p.1, p.2)) ∨ (c = .int .i64 0 ∧ o = some (acc, rc)))

set_option maxRecDepth 100000 in
theorem clr_parts_false (s : Nat) (ch : Int) (E : Value) (t : List Int) (o : Option (List Int × List Int)) (w : World) (h : Ss w s false ch E (254 :: t)) (hp : Parts false t o) :
    Calls Tryd.prog 65 #[.pointer (some ⟨s, 0, none⟩)] w (RetC w s false ch E o) := by
  have H := Lib.hid (getByte_ok s false ch E 254 t w h)
  have hL : t.length ≤ 2147483647 := by have := h.len; simp at this; omega
  obtain ⟨T, pE, rfl⟩ := h.err
  have HP := Lib.hid hp
  clear h hp
  go_enter Tryd.func65, Tryd.ntmps65
  go_wp2_with (first
    | (go_at_call 63; go_must (refine H.out.mono ?_); rintro e w1 ⟨rfl, hs1, hf1⟩; have hsB := hs1.lt; have hB1 := Bf.new w1))
  have hwB := hf1.size
  generalize hbq : w1.heap.size = B at hB1 hsB hwB ⊢
  have HS1 := Lib.hid (hs1.gr ((Gr.refl w1).alloc (.cells #[.slice none 0 0, .int .i64 0, .int .i8 0] 79)))
  have HF1 := Lib.hid (hf1.alloc (.cells #[.slice none 0 0, .int .i64 0, .int .i8 0] 79))
  have HZ1 := Lib.hid (show B ≤ (w1.alloc (.cells #[.slice none 0 0, .int .i64 0, .int .i8 0] 79)).heap.size by simp; omega)
  have HB1 := Lib.hid hB1
  clear hs1 hf1 hbq hB1
  generalize w1.alloc (.cells #[.slice none 0 0, .int .i64 0, .int .i8 0] 79) = W at *
  go_loopg [3, 4, 5, 6] t.length (fun k e _ c _ wr => e = .nilIface ∧ ClrInv w B s false ch (.iface T (.pointer (some pE))) t.length o k c wr)
  case atStart => exact ⟨rfl, [], t, HB1.out, HS1.out, HF1.out, HZ1.out, by simp, Nat.le_refl _, .inl ⟨254, by omega, rfl, o, HP.out, by cases o <;> simp⟩⟩
  case round =>
    obtain ⟨rfl, acc, rc, hB, hs, hF, hzr, hlen, hk, hcase⟩ := hrel
    rcases hcase with ⟨z, hz, rfl, o', hp, ho⟩ | ⟨rfl, ho⟩
    · have k5 := hs.big'
      have HO := Lib.hid ho
      clear ho
      cases hp with
      | torn hpk hpart =>
          have HS := fun w hs => Lib.hid (szS_no s ch (.iface T (.pointer (some pE))) hpk hpart w hs)
          go_wp2_with (first
            | (go_at_call 63; go_must (refine (HS _ hs).out.mono ?_); rintro e wa ⟨rfl, hsa, hfa⟩))
          go_ret2
          rw [HO.out]
          exact ⟨rfl, hsa, hF.trans hfa⟩
      | @last _ t' hpk hpart =>
          have HS := fun w hs => Lib.hid (szS_ok s ch (.iface T (.pointer (some pE))) hpk hpart w hs)
          have hpl := partN_len hpart
          have HG := fun w hs => Lib.hid (getBytes_ok s false ch (.iface T (.pointer (some pE))) t' 0 w hs (Nat.zero_le _))
          rw [List.take_zero, List.drop_zero] at HG
          go_wp2_with (first
            | (go_at_call 63; go_must (refine (HS _ hs).out.mono ?_); rintro e wa ⟨rfl, hsa, hfa⟩; have hBa := hB.fx hfa hsB; have hza := hfa.size)
            | (go_at_call 64; go_must (refine (HG _ hsa).out.mono ?_); rintro e wb ⟨u, rfl, hu, hlo, hsb, hfb⟩; have hBb := hBa.fx hfb hsB; have hzb := hfb.size)
            | (go_at_call 74; go_must (refine (write_lo hBb (by omega) hu (fun a n c e => by have := hlo a n c e; omega) (by simp; omega)).mono ?_); rintro e wc ⟨rfl, hBc, hbel⟩))
          go_roundg t'.length
          case measure => omega
          case rel => exact ⟨rfl, acc, t', by simpa using hBc, hsb.below hbel hsB, ((hF.trans hfa).trans hfb).below hbel hwB, by have := hbel.size; omega, by omega, Nat.le_refl _, .inr ⟨rfl, by rw [HO.out]; simp⟩⟩
      | @short _ t' n hpk hpart hn1 hn2 hn3 =>
          have hn255 : n ≤ 255 := by have e := partS_some hpart; subst e; have := hs.byt n (by simp); omega
          have HS := fun w hs => Lib.hid (szS_ok s ch (.iface T (.pointer (some pE))) hpk hpart w hs)
          have HG := fun w hs => Lib.hid (getBytes_no s false ch (.iface T (.pointer (some pE))) t' n w hs hn3 hn2)
          go_wp2_with (first
            | (go_at_call 63; go_must (refine (HS _ hs).out.mono ?_); rintro e wa ⟨rfl, hsa, hfa⟩)
            | (go_at_call 64; go_must (refine (HG _ hsa).out.mono ?_); rintro e wb ⟨rfl, hsb, hfb⟩))
          go_ret2
          rw [HO.out]
          exact ⟨rfl, hsb, (hF.trans hfa).trans hfb⟩
      | @more _ t' o2 n hpk hpart hn1 hn2 hrest =>
          have hn255 : n ≤ 255 := by have e := partS_some hpart; subst e; have := hs.byt n (by simp); omega
          have HS := fun w hs => Lib.hid (szS_ok s ch (.iface T (.pointer (some pE))) hpk hpart w hs)
          have hpl := partN_len hpart
          have HG := fun w hs => Lib.hid (getBytes_ok s false ch (.iface T (.pointer (some pE))) t' n w hs hn2)
          have HR := Lib.hid hrest
          have l1 : (t'.take n).length = n := by rw [List.length_take]; omega
          have l2 : (t'.drop n).length = t'.length - n := by rw [List.length_drop]
          have HO2 := Lib.hid (show o = (o2.map fun p => (acc ++ t'.take n ++ p.1, p.2)) by rw [HO.out]; cases o2 <;> simp)
          clear hrest HO
          generalize t'.take n = l at *
          generalize t'.drop n = r' at *
          go_wp2_with (first
            | (go_at_call 63; go_must (refine (HS _ hs).out.mono ?_); rintro e wa ⟨rfl, hsa, hfa⟩; have hBa := hB.fx hfa hsB; have hza := hfa.size)
            | (go_at_call 64; go_must (refine (HG _ hsa).out.mono ?_); rintro e wb ⟨u, rfl, hu, hlo, hsb, hfb⟩; have hBb := hBa.fx hfb hsB; have hzb := hfb.size)
            | (go_at_call 74; go_must (refine (write_lo hBb (by omega) hu (fun a n c e => by have := hlo a n c e; omega) (by omega)).mono ?_); rintro e wc ⟨rfl, hBc, hbel⟩))
          go_roundg r'.length
          case measure => omega
          case rel => exact ⟨rfl, acc ++ l, r', hBc, hsb.below hbel hsB, ((hF.trans hfa).trans hfb).below hbel hwB, by have := hbel.size; omega, by rw [List.length_append]; omega, Nat.le_refl _, .inl ⟨n, by omega, rfl, o2, HR.out, HO2.out⟩⟩
    · go_wp2_with (first | (go_at_call 46; go_must (refine (bufBytes hB).mono ?_); rintro e w4 ⟨v4, rfl, ho4, hg4⟩))
      go_ret2
      rw [ho]
      exact ⟨_, rfl, ho4.rd, ho4.off hsB, hs.gr hg4, hF.trans (Fx.of_gr hg4)⟩

set_option maxRecDepth 100000 in
theorem clr_parts_true (s : Nat) (ch : Int) (E : Value) (t : List Int) (o : Option (List Int × List Int)) (w : World) (h : Ss w s true ch E (254 :: t)) (hp : Parts true t o) :
    Calls Tryd.prog 65 #[.pointer (some ⟨s, 0, none⟩)] w (RetC w s true ch E o) := by
  have H := Lib.hid (getByte_ok s true ch E 254 t w h)
  have hL : t.length ≤ 2147483647 := by have := h.len; simp at this; omega
  obtain ⟨T, pE, rfl⟩ := h.err
  have HP := Lib.hid hp
  clear h hp
  go_enter Tryd.func65, Tryd.ntmps65
  go_wp2_with (first
    | (go_at_call 63; go_must (refine H.out.mono ?_); rintro e w1 ⟨rfl, hs1, hf1⟩; have hsB := hs1.lt; have hB1 := Bf.new w1))
  have hwB := hf1.size
  generalize hbq : w1.heap.size = B at hB1 hsB hwB ⊢
  have HS1 := Lib.hid (hs1.gr ((Gr.refl w1).alloc (.cells #[.slice none 0 0, .int .i64 0, .int .i8 0] 79)))
  have HF1 := Lib.hid (hf1.alloc (.cells #[.slice none 0 0, .int .i64 0, .int .i8 0] 79))
  have HZ1 := Lib.hid (show B ≤ (w1.alloc (.cells #[.slice none 0 0, .int .i64 0, .int .i8 0] 79)).heap.size by simp; omega)
  have HB1 := Lib.hid hB1
  clear hs1 hf1 hbq hB1
  generalize w1.alloc (.cells #[.slice none 0 0, .int .i64 0, .int .i8 0] 79) = W at *
  go_loopg [3, 4, 5, 6] t.length (fun k e _ c _ wr => e = .nilIface ∧ ClrInv w B s true ch (.iface T (.pointer (some pE))) t.length o k c wr)
  case atStart => exact ⟨rfl, [], t, HB1.out, HS1.out, HF1.out, HZ1.out, by simp, Nat.le_refl _, .inl ⟨254, by omega, rfl, o, HP.out, by cases o <;> simp⟩⟩
  case round =>
    obtain ⟨rfl, acc, rc, hB, hs, hF, hzr, hlen, hk, hcase⟩ := hrel
    rcases hcase with ⟨z, hz, rfl, o', hp, ho⟩ | ⟨rfl, ho⟩
    · have k5 := hs.big'
      have HO := Lib.hid ho
      clear ho
      cases hp with
      | torn hpk hpart =>
          have HS := fun w hs => Lib.hid (szB_no s ch (.iface T (.pointer (some pE))) hpk hpart w hs)
          go_wp2_with (first
            | (go_at_call 69; go_must (refine (HS _ hs).out.mono ?_); rintro e wa ⟨rfl, hsa, hfa⟩))
          go_ret2
          rw [HO.out]
          exact ⟨rfl, hsa, hF.trans hfa⟩
      | @last _ t' hpk hpart =>
          have HS := fun w hs => Lib.hid (szB_ok s ch (.iface T (.pointer (some pE))) hpk hpart w hs)
          have hpl := partN_len hpart
          have HG := fun w hs => Lib.hid (getBytes_ok s true ch (.iface T (.pointer (some pE))) t' 0 w hs (Nat.zero_le _))
          rw [List.take_zero, List.drop_zero] at HG
          go_wp2_with (first
            | (go_at_call 69; go_must (refine (HS _ hs).out.mono ?_); rintro e wa ⟨rfl, hsa, hfa⟩; have hBa := hB.fx hfa hsB; have hza := hfa.size)
            | (go_at_call 64; go_must (refine (HG _ hsa).out.mono ?_); rintro e wb ⟨u, rfl, hu, hlo, hsb, hfb⟩; have hBb := hBa.fx hfb hsB; have hzb := hfb.size)
            | (go_at_call 74; go_must (refine (write_lo hBb (by omega) hu (fun a n c e => by have := hlo a n c e; omega) (by simp; omega)).mono ?_); rintro e wc ⟨rfl, hBc, hbel⟩))
          go_roundg t'.length
          case measure => omega
          case rel => exact ⟨rfl, acc, t', by simpa using hBc, hsb.below hbel hsB, ((hF.trans hfa).trans hfb).below hbel hwB, by have := hbel.size; omega, by omega, Nat.le_refl _, .inr ⟨rfl, by rw [HO.out]; simp⟩⟩
      | @short _ t' n hpk hpart hn1 hn2 hn3 =>
          have HS := fun w hs => Lib.hid (szB_ok s ch (.iface T (.pointer (some pE))) hpk hpart w hs)
          have HG := fun w hs => Lib.hid (getBytes_no s true ch (.iface T (.pointer (some pE))) t' n w hs hn3 hn2)
          go_wp2_with (first
            | (go_at_call 69; go_must (refine (HS _ hs).out.mono ?_); rintro e wa ⟨rfl, hsa, hfa⟩)
            | (go_at_call 64; go_must (refine (HG _ hsa).out.mono ?_); rintro e wb ⟨rfl, hsb, hfb⟩))
          go_ret2
          rw [HO.out]
          exact ⟨rfl, hsb, (hF.trans hfa).trans hfb⟩
      | @more _ t' o2 n hpk hpart hn1 hn2 hrest =>
          have HS := fun w hs => Lib.hid (szB_ok s ch (.iface T (.pointer (some pE))) hpk hpart w hs)
          have hpl := partN_len hpart
          have HG := fun w hs => Lib.hid (getBytes_ok s true ch (.iface T (.pointer (some pE))) t' n w hs hn2)
          have HR := Lib.hid hrest
          have l1 : (t'.take n).length = n := by rw [List.length_take]; omega
          have l2 : (t'.drop n).length = t'.length - n := by rw [List.length_drop]
          have HO2 := Lib.hid (show o = (o2.map fun p => (acc ++ t'.take n ++ p.1, p.2)) by rw [HO.out]; cases o2 <;> simp)
          clear hrest HO
          generalize t'.take n = l at *
          generalize t'.drop n = r' at *
          go_wp2_with (first
            | (go_at_call 69; go_must (refine (HS _ hs).out.mono ?_); rintro e wa ⟨rfl, hsa, hfa⟩; have hBa := hB.fx hfa hsB; have hza := hfa.size)
            | (go_at_call 64; go_must (refine (HG _ hsa).out.mono ?_); rintro e wb ⟨u, rfl, hu, hlo, hsb, hfb⟩; have hBb := hBa.fx hfb hsB; have hzb := hfb.size)
            | (go_at_call 74; go_must (refine (write_lo hBb (by omega) hu (fun a n c e => by have := hlo a n c e; omega) (by omega)).mono ?_); rintro e wc ⟨rfl, hBc, hbel⟩))
          go_roundg r'.length
          case measure => omega
          case rel => exact ⟨rfl, acc ++ l, r', hBc, hsb.below hbel hsB, ((hF.trans hfa).trans hfb).below hbel hwB, by have := hbel.size; omega, by rw [List.length_append]; omega, Nat.le_refl _, .inl ⟨n, by omega, rfl, o2, HR.out, HO2.out⟩⟩
    · go_wp2_with (first | (go_at_call 46; go_must (refine (bufBytes hB).mono ?_); rintro e w4 ⟨v4, rfl, ho4, hg4⟩))
      go_ret2
      rw [ho]
      exact ⟨_, rfl, ho4.rd, ho4.off hsB, hs.gr hg4, hF.trans (Fx.of_gr hg4)⟩
end Go.Proofs.YtgkccbfepjgjoaaDoor

/- A session's readers that lean on those of a CLR. -/
namespace Go.Proofs.YtgkccbfepjgjoaaDoor
open Go Go.RowKit

/-- What a CLR is read as. -/
inductive Clr (big : Bool) : List Int → Option (List Int × List Int) → Prop
  | torn : Clr big [] none
  | null {b t} : b = 0 ∨ b = 255 ∨ b = 253 → Clr big (b :: t) (some ([], t))
  | one {t} {n : Nat} : 1 ≤ n → n ≤ 252 → n ≤ t.length → Clr big ((n : Int) :: t) (some (t.take n, t.drop n))
  | short {t} {n : Nat} : 1 ≤ n → n ≤ 252 → t.length < n → Clr big ((n : Int) :: t) none
  | parts {t o} : Parts big t o → Clr big (254 :: t) o

theorem getClr (s : Nat) (big : Bool) (ch : Int) (E : Value) (r : List Int) (o : Option (List Int × List Int)) (w : World) (h : Ss w s big ch E r) (hc : Clr big r o) :
    Calls Tryd.prog 65 #[.pointer (some ⟨s, 0, none⟩)] w (RetC w s big ch E o) := by
  cases hc with
  | torn => exact clr_empty s big ch E w h
  | null hb => exact clr_none s big ch E _ _ w h hb
  | one h1 h2 h3 => exact clr_one s big ch E _ _ w h h1 h2 h3
  | short h1 h2 h3 => exact clr_short s big ch E _ _ w h h1 h2 h3
  | parts hp =>
    cases big
    · exact clr_parts_false s ch E _ _ w h hp
    · exact clr_parts_true s ch E _ _ w h hp

theorem run_cutH {P : Program} {t : TypeId} (L : U8 P t) (b o N c n : Nat) (J : Int) (hJ : J = (n : Int)) (hin : n ≤ c) (w : World) :
    (Instr.slice t (.slice (some ⟨b, o, none⟩) N c) none (some (.int .i64 J)) none).run P w = .ok (.slice (some ⟨b, o, none⟩) n c) w := by
  subst hJ
  obtain ⟨x, hi, hz, hz1, hz2⟩ := info_parts L.info
  have e2 : (if c = 0 then some (⟨b, o, none⟩ : Addr) else some ((⟨b, o, none⟩ : Addr).add 0)) = some ⟨b, o, none⟩ := by
    rw [Lib.addr_add]
    split <;> rfl
  have e4 : Instr.sliceBound (.int .i64 (n : Int)) c .sliceAcap = pure n := by
    have h2 : (0 : Int) ≤ (n : Int) ∧ (n : Int) ≤ c := by omega
    simp [Instr.sliceBound, asIntOf, h2]
  simp [Instr.slice, Instr.sliceBounds, e4, run_underlying L.under, sizeOf, typeInfo, hi, e2]

/-- What a DLC is read as. -/
inductive Dlc (big : Bool) : List Int → Option (List Int × List Int) → Prop
  | torn {r} : PkShort r → rdPk r = none → Dlc big r none
  | null {r t} : PkShort r → rdPk r = some (0, t) → Dlc big r (some ([], t))
  | some {r t o} {n : Nat} : PkShort r → rdPk r = some ((n : Int), t) → 1 ≤ n → Clr big t o → Dlc big r (o.map fun p => (p.1.take n, p.2))

theorem dlc_torn (s : Nat) (big : Bool) (ch : Int) (E : Value) (r : List Int) (w : World) (h : Ss w s big ch E r) (hpk : PkShort r) (hr : rdPk r = none) :
    Calls Tryd.prog 67 #[.pointer (some ⟨s, 0, none⟩)] w (RetC w s big ch E none) := by
  have H := getInt_pk s big ch E 4 true r w h hpk
  rw [hr] at H
  have H := Lib.hid H
  obtain ⟨T, p, rfl⟩ := h.err
  clear h hr
  go_enter Tryd.func67, Tryd.ntmps67
  go_wp2_with (first | (go_at_call 69; go_must (refine H.out.mono ?_); rintro e w1 ⟨rfl, hs, hf⟩))
  go_ret2
  exact ⟨rfl, hs, hf⟩
theorem dlc_null (s : Nat) (big : Bool) (ch : Int) (E : Value) (r t : List Int) (w : World) (h : Ss w s big ch E r) (hpk : PkShort r) (hr : rdPk r = some (0, t)) :
    Calls Tryd.prog 67 #[.pointer (some ⟨s, 0, none⟩)] w (RetC w s big ch E (some ([], t))) := by
  have H := getInt_pk s big ch E 4 true r w h hpk
  rw [hr] at H
  have H := Lib.hid H
  clear h hr
  go_enter Tryd.func67, Tryd.ntmps67
  go_wp2_with (first | (go_at_call 69; go_must (refine H.out.mono ?_); rintro e w1 ⟨rfl, hs, hf⟩))
  go_ret2
  exact ⟨_, rfl, Rd.nil _, (fun _ _ _ e => by cases e), hs, hf⟩
theorem dlc_err (s : Nat) (big : Bool) (ch : Int) (E : Value) (r t : List Int) (n : Nat) (w : World) (h : Ss w s big ch E r) (hpk : PkShort r) (hr : rdPk r = some ((n : Int), t)) (h1 : 1 ≤ n) (hc : Clr big t none) :
    Calls Tryd.prog 67 #[.pointer (some ⟨s, 0, none⟩)] w (RetC w s big ch E none) := by
  have H := getInt_pk s big ch E 4 true r w h hpk
  rw [hr] at H
  have H := Lib.hid H
  have HC := fun w hs => Lib.hid (getClr s big ch E t none w hs hc)
  have hb := (rdPk_bd hr).2
  obtain ⟨T, p, rfl⟩ := h.err
  clear h hr hc
  go_enter Tryd.func67, Tryd.ntmps67
  go_wp2_with (first
    | (go_at_call 69; go_must (refine H.out.mono ?_); rintro e w1 ⟨rfl, hs, hf⟩)
    | (go_at_call 65; go_must (refine (HC _ hs).out.mono ?_); rintro e w2 ⟨rfl, hs2, hf2⟩))
  go_ret2
  exact ⟨rfl, hs2, hf.trans hf2⟩
theorem dlc_some (s : Nat) (big : Bool) (ch : Int) (E : Value) (r t l q : List Int) (n : Nat) (w : World) (h : Ss w s big ch E r) (hpk : PkShort r) (hr : rdPk r = some ((n : Int), t)) (h1 : 1 ≤ n) (hc : Clr big t (some (l, q))) :
    Calls Tryd.prog 67 #[.pointer (some ⟨s, 0, none⟩)] w (RetC w s big ch E (some (l.take n, q))) := by
  have H := getInt_pk s big ch E 4 true r w h hpk
  rw [hr] at H
  have H := Lib.hid H
  have HC := fun w hs => Lib.hid (getClr s big ch E t (some (l, q)) w hs hc)
  have hb := (rdPk_bd hr).2
  clear h hr hc
  by_cases hlt : n < l.length
  · go_enter Tryd.func67, Tryd.ntmps67
    go_wp2_with (first
      | (go_at_call 69; go_must (refine H.out.mono ?_); rintro e w1 ⟨rfl, hs, hf⟩)
      | (go_at_call 65; go_must (refine (HC _ hs).out.mono ?_); rintro e w2 ⟨u, rfl, hu, ho, hs2, hf2⟩; obtain ⟨b, o, c, rfl, hc1, hm1, hat⟩ := hu.at' (by omega); have hsl := run_cutH (P := Tryd.prog) u8 b o l.length c n n rfl (by omega); have hm2 : c ≤ 9223372036854775807 := (by simp only [maxLen] at hm1; omega)))
    go_ret2
    exact ⟨_, rfl, (hat.take n).rd (by rw [List.length_take]; omega) (by omega) hm1, (fun a m d e => by injection e with e; injection e with e; subst e; exact ho ⟨b, o, none⟩ _ _ rfl), hs2, hf.trans hf2⟩
  · rw [List.take_of_length_le (by omega)]
    go_enter Tryd.func67, Tryd.ntmps67
    go_wp2_with (first
      | (go_at_call 69; go_must (refine H.out.mono ?_); rintro e w1 ⟨rfl, hs, hf⟩)
      | (go_at_call 65; go_must (refine (HC _ hs).out.mono ?_); rintro e w2 ⟨u, rfl, hu, ho, hs2, hf2⟩; obtain ⟨pu, cu, rfl, hcu⟩ := id hu))
    go_ret2
    exact ⟨_, rfl, hu, ho, hs2, hf.trans hf2⟩

theorem getDlc (s : Nat) (big : Bool) (ch : Int) (E : Value) (r : List Int) (o : Option (List Int × List Int)) (w : World) (h : Ss w s big ch E r) (hc : Dlc big r o) :
    Calls Tryd.prog 67 #[.pointer (some ⟨s, 0, none⟩)] w (RetC w s big ch E o) := by
  cases hc with
  | torn h1 h2 => exact dlc_torn s big ch E r w h h1 h2
  | null h1 h2 => exact dlc_null s big ch E r _ w h h1 h2
  | @some t o' n h1 h2 h3 h4 =>
    cases o' with
    | none => exact dlc_err s big ch E r t n w h h1 h2 h3 h4
    | some p => exact dlc_some s big ch E r t p.1 p.2 n w h h1 h2 h3 h4

/-- What a fixed CLR is read as. -/
inductive Fix : List Int → Option (List Int × List Int) → Prop
  | torn : Fix [] none
  | null {b t} : b = 0 ∨ b = 255 ∨ b = 253 → Fix (b :: t) (some ([], t))
  | one {t} {n : Nat} : 1 ≤ n → n ≤ 252 → n ≤ t.length → Fix ((n : Int) :: t) (some (t.take n, t.drop n))
  | short {t} {n : Nat} : 1 ≤ n → n ≤ 252 → t.length < n → Fix ((n : Int) :: t) none
  | cut {t} : rdNum 4 true t = none → Fix (254 :: t) none
  | long {t u} {n : Nat} : rdNum 4 true t = some ((n : Int), u) → n ≤ u.length → Fix (254 :: t) (some (u.take n, u.drop n))
  | less {t u} {n : Nat} : rdNum 4 true t = some ((n : Int), u) → n ≤ 1152921504606846976 → u.length < n → Fix (254 :: t) none

theorem fix_torn (s : Nat) (big : Bool) (ch : Int) (E : Value) (w : World) (h : Ss w s big ch E []) :
    Calls Tryd.prog 72 #[.pointer (some ⟨s, 0, none⟩)] w (RetC w s big ch E none) := by
  have H := Lib.hid (getByte_no s big ch E w h)
  obtain ⟨T, p, rfl⟩ := h.err
  clear h
  go_enter Tryd.func72, Tryd.ntmps72
  go_wp2_with (first | (go_at_call 63; go_must (refine H.out.mono ?_); rintro e w1 ⟨rfl, hs, hf⟩))
  go_ret2
  exact ⟨rfl, hs, hf⟩
theorem fix_null (s : Nat) (big : Bool) (ch : Int) (E : Value) (b : Int) (t : List Int) (w : World) (h : Ss w s big ch E (b :: t)) (hb : b = 0 ∨ b = 255 ∨ b = 253) :
    Calls Tryd.prog 72 #[.pointer (some ⟨s, 0, none⟩)] w (RetC w s big ch E (some ([], t))) := by
  have H := Lib.hid (getByte_ok s big ch E b t w h)
  clear h
  rcases hb with rfl | rfl | rfl
  all_goals
    go_enter Tryd.func72, Tryd.ntmps72
    go_wp2_with (first | (go_at_call 63; go_must (refine H.out.mono ?_); rintro e w1 ⟨rfl, hs, hf⟩))
    go_ret2
    exact ⟨_, rfl, Rd.nil _, (fun _ _ _ e => by cases e), hs, hf⟩
theorem fix_byte (s : Nat) (big : Bool) (ch : Int) (E : Value) (n : Nat) (t : List Int) (o : Option (List Int × List Int)) (w : World) (h : Ss w s big ch E ((n : Int) :: t)) (h1 : 1 ≤ n) (h2 : n ≤ 252)
    (ho : o = if n ≤ t.length then some (t.take n, t.drop n) else none) :
    Calls Tryd.prog 72 #[.pointer (some ⟨s, 0, none⟩)] w (RetC w s big ch E o) := by
  have H := Lib.hid (getByte_ok s big ch E n t w h)
  have e0 : ((n : Int) == 0) = false := by simp; omega
  have e1 : ((n : Int) == 255) = false := by simp; omega
  have e2 : ((n : Int) == 253) = false := by simp; omega
  have e3 : ((n : Int) == 254) = false := by simp; omega
  obtain ⟨T, p, rfl⟩ := h.err
  by_cases hn : n ≤ t.length
  · rw [if_pos hn] at ho
    subst ho
    have HB := fun w hs => Lib.hid (getBytes_ok s big ch (.iface T (.pointer (some p))) t n w hs hn)
    clear h hn
    generalize t.take n = l at *
    generalize t.drop n = r at *
    go_enter Tryd.func72, Tryd.ntmps72
    go_wp2_with (first
      | (go_at_call 63; go_must (refine H.out.mono ?_); rintro e w1 ⟨rfl, hs, hf⟩)
      | (go_at_call 64; go_must (refine (HB _ hs).out.mono ?_); rintro e w2 ⟨u, rfl, hu, hlo, hs2, hf2⟩))
    go_ret2
    exact ⟨u, rfl, hu, hlo.off (Nat.le_refl _), hs2, hf.trans hf2⟩
  · rw [if_neg hn] at ho
    subst ho
    have HB := fun w hs => Lib.hid (getBytes_no s big ch (.iface T (.pointer (some p))) t n w hs (by omega) (by omega))
    clear h hn
    go_enter Tryd.func72, Tryd.ntmps72
    go_wp2_with (first
      | (go_at_call 63; go_must (refine H.out.mono ?_); rintro e w1 ⟨rfl, hs, hf⟩)
      | (go_at_call 64; go_must (refine (HB _ hs).out.mono ?_); rintro e w2 ⟨rfl, hs2, hf2⟩))
    go_ret2
    exact ⟨rfl, hs2, hf.trans hf2⟩
theorem fix_cut (s : Nat) (big : Bool) (ch : Int) (E : Value) (t : List Int) (w : World) (h : Ss w s big ch E (254 :: t)) (hr : rdNum 4 true t = none) :
    Calls Tryd.prog 72 #[.pointer (some ⟨s, 0, none⟩)] w (RetC w s big ch E none) := by
  have H := Lib.hid (getByte_ok s big ch E 254 t w h)
  have HI := fun w hs => Lib.hid (by have := getInt_num s big ch E 4 true t w hs (by omega) (by omega); rw [hr] at this; exact this)
  obtain ⟨T, p, rfl⟩ := h.err
  clear h
  go_enter Tryd.func72, Tryd.ntmps72
  go_wp2_with (first
    | (go_at_call 63; go_must (refine H.out.mono ?_); rintro e w1 ⟨rfl, hs, hf⟩)
    | (go_at_call 69; go_must (refine (HI _ hs).out.mono ?_); rintro e w2 ⟨rfl, hs2, hf2⟩))
  go_ret2
  exact ⟨rfl, hs2, hf.trans hf2⟩
theorem fix_long (s : Nat) (big : Bool) (ch : Int) (E : Value) (t u : List Int) (n : Nat) (o : Option (List Int × List Int)) (w : World) (h : Ss w s big ch E (254 :: t)) (hr : rdNum 4 true t = some ((n : Int), u)) (h2 : n ≤ 1152921504606846976)
    (ho : o = if n ≤ u.length then some (u.take n, u.drop n) else none) :
    Calls Tryd.prog 72 #[.pointer (some ⟨s, 0, none⟩)] w (RetC w s big ch E o) := by
  have H := Lib.hid (getByte_ok s big ch E 254 t w h)
  have HI := fun w hs => Lib.hid (by have := getInt_num s big ch E 4 true t w hs (by omega) (by omega); rw [hr] at this; exact this)
  obtain ⟨T, p, rfl⟩ := h.err
  by_cases hn : n ≤ u.length
  · rw [if_pos hn] at ho
    subst ho
    have HB := fun w hs => Lib.hid (getBytes_ok s big ch (.iface T (.pointer (some p))) u n w hs hn)
    clear h hn
    generalize u.take n = l at *
    generalize u.drop n = r at *
    go_enter Tryd.func72, Tryd.ntmps72
    go_wp2_with (first
      | (go_at_call 63; go_must (refine H.out.mono ?_); rintro e w1 ⟨rfl, hs, hf⟩)
      | (go_at_call 69; go_must (refine (HI _ hs).out.mono ?_); rintro e w2 ⟨rfl, hs2, hf2⟩)
      | (go_at_call 64; go_must (refine (HB _ hs2).out.mono ?_); rintro e w3 ⟨v, rfl, hu, hlo, hs3, hf3⟩))
    go_ret2
    exact ⟨v, rfl, hu, hlo.off (Nat.le_refl _), hs3, (hf.trans hf2).trans hf3⟩
  · rw [if_neg hn] at ho
    subst ho
    have HB := fun w hs => Lib.hid (getBytes_no s big ch (.iface T (.pointer (some p))) u n w hs (by omega) h2)
    clear h hn
    go_enter Tryd.func72, Tryd.ntmps72
    go_wp2_with (first
      | (go_at_call 63; go_must (refine H.out.mono ?_); rintro e w1 ⟨rfl, hs, hf⟩)
      | (go_at_call 69; go_must (refine (HI _ hs).out.mono ?_); rintro e w2 ⟨rfl, hs2, hf2⟩)
      | (go_at_call 64; go_must (refine (HB _ hs2).out.mono ?_); rintro e w3 ⟨rfl, hs3, hf3⟩))
    go_ret2
    exact ⟨rfl, hs3, (hf.trans hf2).trans hf3⟩
theorem getFix (s : Nat) (big : Bool) (ch : Int) (E : Value) (r : List Int) (o : Option (List Int × List Int)) (w : World) (h : Ss w s big ch E r) (hc : Fix r o) :
    Calls Tryd.prog 72 #[.pointer (some ⟨s, 0, none⟩)] w (RetC w s big ch E o) := by
  cases hc with
  | torn => exact fix_torn s big ch E w h
  | null hb => exact fix_null s big ch E _ _ w h hb
  | one h1 h2 h3 => exact fix_byte s big ch E _ _ _ w h h1 h2 (by rw [if_pos h3])
  | short h1 h2 h3 => exact fix_byte s big ch E _ _ _ w h h1 h2 (by rw [if_neg (by omega)])
  | cut hr => exact fix_cut s big ch E _ w h hr
  | @long t u n hr hn =>
    refine fix_long s big ch E _ _ n _ w h hr ?_ (by rw [if_pos hn])
    have : u.length ≤ t.length := by
      simp only [rdNum] at hr
      split at hr
      · injection hr with hr
        injection hr with _ hr
        subst hr
        rw [List.length_drop]; omega
      · cases hr
    have := h.len
    simp at this
    omega
  | less hr h2 hn => exact fix_long s big ch E _ _ _ _ w h hr h2 (by rw [if_neg (by omega)])
end Go.Proofs.YtgkccbfepjgjoaaDoor

/- A session's readers of a key and a value, of a text that ends with a 0; and whether a number is long. -/
namespace Go.Proofs.YtgkccbfepjgjoaaDoor
open Go Go.RowKit

/-- What reading a key, a value and a flag gives. -/
def RetK (w : World) (s : Nat) (big : Bool) (ch : Int) (E : Value) (o : Option (List Int × List Int × Int × List Int)) (e : Ending) (w' : World) : Prop :=
  match o with
  | some (k, v, n, r) => ∃ u1 u2, e = .returned (.tuple #[u1, u2, .int .i64 n, .nilIface]) ∧ Rd w' u1 k ∧ Rd w' u2 v ∧ Ss w' s big ch E r ∧ Fx s w w'
  | none => ∃ p1 n1 c1 p2 n2 c2, e = .returned (.tuple #[.slice p1 n1 c1, .slice p2 n2 c2, .int .i64 0, E]) ∧ (∃ r, Ss w' s big ch E r) ∧ Fx s w w'

theorem keyVal_ok (s : Nat) (big : Bool) (ch : Int) (E : Value) (r r1 r2 k v : List Int) (o : Option (Int × List Int)) (w : World) (h : Ss w s big ch E r) (h1 : Dlc big r (some (k, r1))) (h2 : Dlc big r1 (some (v, r2))) (h3 : PkShort r2) (ho : rdPk r2 = o) :
    Calls Tryd.prog 70 #[.pointer (some ⟨s, 0, none⟩)] w (RetK w s big ch E (o.map fun p => (k, v, p.1, p.2))) := by
  have H1 := Lib.hid (getDlc s big ch E r _ w h h1)
  have H2 := fun w hs => Lib.hid (getDlc s big ch E r1 _ w hs h2)
  have H3 := fun w hs => Lib.hid (getInt_pk s big ch E 4 true r2 w hs h3)
  rw [ho] at H3
  obtain ⟨T, p, rfl⟩ := h.err
  clear h h1 h2 h3 ho
  cases o with
  | none =>
    go_enter Tryd.func70, Tryd.ntmps70
    go_wp2_with (first
      | (go_at_call 67; (with_reducible refine (H2 _ hs1).out.mono ?_); rintro e w2 ⟨u2, rfl, hu2, ho2, hs2, hf2⟩)
      | (go_at_call 67; (with_reducible refine H1.out.mono ?_); rintro e w1 ⟨u1, rfl, hu1, ho1, hs1, hf1⟩; clear H1)
      | (go_at_call 69; (with_reducible refine (H3 _ hs2).out.mono ?_); rintro e w3 ⟨rfl, hs3, hf3⟩))
    obtain ⟨p1, c1, rfl, _⟩ := id hu1
    obtain ⟨p2, c2, rfl, _⟩ := id hu2
    refine bodyPost_ret (v := .tuple #[.slice p1 k.length c1, .slice p2 v.length c2, .int .i64 0, .iface T (.pointer (some p))]) (by simp [results, Tryd.results70, go_sem]) rfl ⟨_, _, _, _, _, _, rfl, hs3, (hf1.trans hf2).trans hf3⟩
  | some q =>
    obtain ⟨n, r3⟩ := q
    go_enter Tryd.func70, Tryd.ntmps70
    go_wp2_with (first
      | (go_at_call 67; (with_reducible refine (H2 _ hs1).out.mono ?_); rintro e w2 ⟨u2, rfl, hu2, ho2, hs2, hf2⟩)
      | (go_at_call 67; (with_reducible refine H1.out.mono ?_); rintro e w1 ⟨u1, rfl, hu1, ho1, hs1, hf1⟩; clear H1)
      | (go_at_call 69; (with_reducible refine (H3 _ hs2).out.mono ?_); rintro e w3 ⟨rfl, hs3, hf3⟩))
    refine bodyPost_ret (v := .tuple #[u1, u2, .int .i64 n, .nilIface]) (by simp [results, Tryd.results70, go_sem]) rfl ⟨_, _, rfl, hu1.fx (hf2.trans hf3) ho1, hu2.fx hf3 ho2, hs3, (hf1.trans hf2).trans hf3⟩
theorem keyVal_no1 (s : Nat) (big : Bool) (ch : Int) (E : Value) (r : List Int) (w : World) (h : Ss w s big ch E r) (h1 : Dlc big r none) :
    Calls Tryd.prog 70 #[.pointer (some ⟨s, 0, none⟩)] w (RetK w s big ch E none) := by
  have H1 := Lib.hid (getDlc s big ch E r _ w h h1)
  obtain ⟨T, p, rfl⟩ := h.err
  clear h h1
  go_enter Tryd.func70, Tryd.ntmps70
  go_wp2_with (first
    | (go_at_call 67; (with_reducible refine H1.out.mono ?_); rintro e w1 ⟨rfl, hs1, hf1⟩))
  refine bodyPost_ret (v := .tuple #[.slice none 0 0, .slice none 0 0, .int .i64 0, .iface T (.pointer (some p))]) (by simp [results, Tryd.results70, go_sem]) rfl ⟨_, _, _, _, _, _, rfl, hs1, hf1⟩
theorem keyVal_no2 (s : Nat) (big : Bool) (ch : Int) (E : Value) (r r1 k : List Int) (w : World) (h : Ss w s big ch E r) (h1 : Dlc big r (some (k, r1))) (h2 : Dlc big r1 none) :
    Calls Tryd.prog 70 #[.pointer (some ⟨s, 0, none⟩)] w (RetK w s big ch E none) := by
  have H1 := Lib.hid (getDlc s big ch E r _ w h h1)
  have H2 := fun w hs => Lib.hid (getDlc s big ch E r1 _ w hs h2)
  obtain ⟨T, p, rfl⟩ := h.err
  clear h h1 h2
  go_enter Tryd.func70, Tryd.ntmps70
  go_wp2_with (first
    | (go_at_call 67; (with_reducible refine (H2 _ hs1).out.mono ?_); rintro e w2 ⟨rfl, hs2, hf2⟩)
    | (go_at_call 67; (with_reducible refine H1.out.mono ?_); rintro e w1 ⟨u1, rfl, hu1, ho1, hs1, hf1⟩; clear H1))
  obtain ⟨p1, c1, rfl, _⟩ := id hu1
  refine bodyPost_ret (v := .tuple #[.slice p1 k.length c1, .slice none 0 0, .int .i64 0, .iface T (.pointer (some p))]) (by simp [results, Tryd.results70, go_sem]) rfl ⟨_, _, _, _, _, _, rfl, hs2, hf1.trans hf2⟩

theorem and127' : ∀ b : Fin 256, bits .and .u8 (b.val : Int) 127 = (b.val : Int) % 128 := by decide +kernel
theorem and127 (b : Int) (h0 : 0 ≤ b) (h1 : b < 256) : bits .and .u8 b 127 = b % 128 := by
  have := and127' ⟨b.toNat, by omega⟩
  rwa [Int.toNat_of_nonneg h0] at this

theorem peek_nil (s : Nat) (big : Bool) (ch : Int) (E : Value) (w : World) (h : Ss w s big ch E []) :
    Calls Tryd.prog 73 #[.pointer (some ⟨s, 0, none⟩), .int .i64 1] w fun e w' => e = .returned (.tuple #[.slice none 0 0, E]) ∧ Ss w' s big ch E [] ∧ Fx s w w' := by
  obtain ⟨v, xs, i, h1, hr, h3, h4⟩ := h
  have hle := h1.le
  have hlx : xs.length = i := by
    have := congrArg List.length hr
    rw [List.length_nil, List.length_drop] at this
    omega
  have H := Lib.hid (read_no s v xs i 1 big ch E w h1 h3 (by omega) (by omega))
  have s4 : w.cell? ⟨s, 4, none⟩ = some (.int .i64 i) := (blk_cell h1.blk 4).trans rfl
  have f4 := blk_free h1.blk 4
  have HE := Lib.hid h3
  have HS := Lib.hid h1
  have HR := Lib.hid hr
  obtain ⟨⟨T, p, rfl⟩, _⟩ := h3
  clear h1 hr hlx
  go_enter Tryd.func73, Tryd.ntmps73
  go_wp2_with (first | (go_at_call 85; go_must (refine H.out.mono ?_); rintro e w1 ⟨rfl, k, rfl⟩))
  go_ret2
  have hf2 := ((Fx.refl s w).drewN k).set 4 (.int .i64 (i : Int))
  exact ⟨rfl, ⟨v, xs, i, (HS.out.drewN k).at' i hle, HR.out, HE.out.fx hf2 (Nat.ne_of_lt h4), h4⟩, hf2⟩

/-- Whether the next compressed number has more than eight bytes. -/
theorem long_no (s : Nat) (big : Bool) (ch : Int) (E : Value) (r : List Int) (w : World) (h : Ss w s big ch E r) (hs : PkShort r) :
    Calls Tryd.prog 66 #[.pointer (some ⟨s, 0, none⟩)] w fun e w' => e = .returned (.bool false) ∧ Ss w' s big ch E r ∧ Fx s w w' := by
  cases r with
  | nil =>
    have HQ := Lib.hid (peek_nil s big ch E w h)
    obtain ⟨T, p, rfl⟩ := h.err
    clear h
    go_enter Tryd.func66, Tryd.ntmps66
    go_wp2_with (first | (go_at_call 73; go_must (refine HQ.out.mono ?_); rintro e w1 ⟨rfl, hs1, hf1⟩))
    go_ret
    exact ⟨rfl, hs1, hf1⟩
  | cons b t =>
    have hb := h.byt b (by simp)
    have hs : b % 128 ≤ 8 := hs
    have HP := Lib.hid (show Calls Tryd.prog 73 #[.pointer (some ⟨s, 0, none⟩), .int .i64 1] w (RetOk w s big ch E [b] (b :: t)) from peek_ok s big ch E (b :: t) 1 w h (by simp))
    obtain ⟨h0, h1⟩ := hb
    have ha := and127 b h0 h1
    have hlt : b % 128 ≤ 8 := hs
    clear h hs
    go_enter Tryd.func66, Tryd.ntmps66
    go_wp2_with (first | (go_at_call 73; go_must (refine HP.out.mono ?_); rintro e w1 ⟨u, rfl, hu, ho, hs1, hf1⟩; obtain ⟨b1, o1, c1, rfl, hc1, hm1, k0⟩ := rd_one hu))
    go_ret
    exact ⟨by simp; omega, hs1, hf1⟩
end Go.Proofs.YtgkccbfepjgjoaaDoor

/- A session's reader of a text that ends with a 0. -/
namespace Go.Proofs.YtgkccbfepjgjoaaDoor
open Go Go.RowKit

/-- Bytes as a text. -/
def tx (l : List Int) : ByteArray := ⟨(Lib.bytesOf l).toArray⟩
theorem bytesOf_length (l : List Int) : (Lib.bytesOf l).length = l.length := by simp [Lib.bytesOf]
theorem bytesOf_getD {l : List Int} (h : Byt l) (j : Nat) (hj : j < (Lib.bytesOf l).length) : (((Lib.bytesOf l)[j]).toNat : Int) = l.getD j 0 := by
  rw [bytesOf_length] at hj
  have hb := h l[j] (List.getElem_mem hj)
  simp only [Lib.bytesOf, List.getElem_map, List.getD_eq_getElem?_getD, List.getElem?_eq_getElem hj, Option.getD_some]
  simp
  omega

theorem str_conv {w : World} {v : Value} {l : List Int} (h : Rd w v l) : (convert 24 9 v).run Tryd.prog w = .ok (.string (tx l)) w := by
  obtain ⟨p, c, rfl, hc, hm, hp, hb, hby⟩ := h
  cases p with
  | none =>
    have h0 : l = [] := by
      rcases Nat.eq_zero_or_pos l.length with h | h
      · exact List.eq_nil_of_length_eq_zero h
      · obtain ⟨_, _, e, _⟩ := hb h; cases e
    subst h0
    rw [run_convert_bytes_string w 24 9 5 none _ c Tryd.underlying24 Tryd.underlying5 Tryd.underlying9]
    simp [tx, Lib.bytesOf]
    try rfl
  | some a =>
    have := run_convert_bytes_back (P := Tryd.prog) w 24 9 5 a c (Lib.bytesOf l) Tryd.underlying24 Tryd.underlying5 Tryd.underlying9 fun j hj => by
      have hj' := hj
      rw [bytesOf_length] at hj'
      obtain ⟨b, o, e1, hcell⟩ := hb (by omega)
      injection e1 with e1
      subst e1
      rw [Lib.addr_add, hcell j hj', bytesOf_getD hby j hj]
    rw [bytesOf_length] at this
    exact this

/-- A 0 stands first at place k. -/
def ZAt (l : List Int) (k : Nat) : Prop := k < l.length ∧ l.getD k 0 = 0 ∧ ∀ j, j < k → l.getD j 0 ≠ 0

set_option maxRecDepth 100000 in
theorem zz_found (v : Value) (l : List Int) (k : Nat) (w : World) (h : Rd w v l) (hz : ZAt l k) :
    Calls Tryd.prog 88 #[v] w fun e w' => e = .returned (.int .i64 k) ∧ w = w' := by
  obtain ⟨hk, h0, hne⟩ := hz
  obtain ⟨b, o, c, rfl, hc, hm, hat⟩ := h.at' (by omega)
  obtain ⟨n, hn⟩ : ∃ n, l.length = n := ⟨_, rfl⟩
  rw [hn] at hk hc ⊢
  have hcm : c ≤ 9223372036854775807 := by simp only [maxLen] at hm; omega
  have HN := Lib.hid hn
  have HE := Lib.hid hne
  have HAT := Lib.hid hat
  have H0 := Lib.hid h0
  clear hn hne hat h0
  go_enter Tryd.func88, Tryd.ntmps88
  go_wp2
  go_loop [7] (fun i => ∃ j : Nat, i = .int .i64 j ∧ j ≤ k) (fun i => ((n : Int) - intOf i).toNat)
  case atStart => exact ⟨0, rfl, Nat.zero_le _⟩
  case round =>
    obtain ⟨j, rfl, hj⟩ := hrel
    have kc := HAT.out.cell j (by rw [HN.out]; omega)
    by_cases e : j = k
    · subst e
      rw [H0.out] at kc
      go_wp2
      go_ret
      exact ⟨rfl, rfl⟩
    · have hx := HE.out j (by omega)
      have hx2 : (l.getD j 0 == 0) = false := by simpa using hx
      have HX := Lib.hid hx
      generalize l.getD j 0 = x at *
      clear hx HX
      go_wp2
      go_round
      case rel => exact ⟨j + 1, by go_num, by omega⟩
      case measure => simp [intOf]; omega

theorem zz_none (v : Value) (l : List Int) (w : World) (h : Rd w v l) (hne : ∀ j, j < l.length → l.getD j 0 ≠ 0) :
    Calls Tryd.prog 88 #[v] w fun e w' => e = .returned (.int .i64 (-1)) ∧ w = w' := by
  obtain ⟨n, hn⟩ : ∃ n, l.length = n := ⟨_, rfl⟩
  by_cases h0 : n = 0
  · obtain rfl : l = [] := List.eq_nil_of_length_eq_zero (by omega)
    obtain ⟨p, c, rfl, _⟩ := h
    go_enter Tryd.func88, Tryd.ntmps88
    go_wp2
    refine wp_loop_rounds 1 ?_
    rw [rounds_succ]
    go_wp2
    go_ret
    exact ⟨rfl, rfl⟩
  · obtain ⟨b, o, c, rfl, hc, hm, hat⟩ := h.at' (by omega)
    rw [hn] at hc hne ⊢
    have hcm : c ≤ 9223372036854775807 := by simp only [maxLen] at hm; omega
    have HN := Lib.hid hn
    have HE := Lib.hid hne
    have HAT := Lib.hid hat
    clear hn hne hat
    go_enter Tryd.func88, Tryd.ntmps88
    go_wp2
    go_loop [7] (fun i => ∃ j : Nat, i = .int .i64 j ∧ j ≤ n) (fun i => ((n : Int) - intOf i).toNat)
    case atStart => exact ⟨0, rfl, Nat.zero_le _⟩
    case round =>
      obtain ⟨j, rfl, hj⟩ := hrel
      by_cases e : j < n
      · have kc := HAT.out.cell j (by rw [HN.out]; omega)
        have hx := HE.out j e
        have hx2 : (l.getD j 0 == 0) = false := by simpa using hx
        have HX := Lib.hid hx
        generalize l.getD j 0 = x at *
        clear hx HX
        go_wp2
        go_round
        case rel => exact ⟨j + 1, by go_num, by omega⟩
        case measure => simp [intOf]; omega
      · go_wp2
        go_ret
        exact ⟨rfl, rfl⟩

/-- What reading a text gives. -/
theorem null_no (s : Nat) (big : Bool) (ch : Int) (E : Value) (r : List Int) (n : Nat) (w : World) (h : Ss w s big ch E r) (hn : r.length < n) (hb : n ≤ 1152921504606846976) :
    Calls Tryd.prog 71 #[.pointer (some ⟨s, 0, none⟩), .int .i64 n] w (RetNo w s big ch E (.string ⟨#[]⟩)) := by
  have H := Lib.hid (rdS_no s big ch E r n w h hn hb)
  obtain ⟨v, xs, i, h1, _⟩ := id h
  have s4 : w.cell? ⟨s, 4, none⟩ = some (.int .i64 i) := (blk_cell h1.blk 4).trans rfl
  obtain ⟨T, p, rfl⟩ := h.err
  clear h h1
  go_enter Tryd.func71, Tryd.ntmps71
  go_wp2_with (first | (go_at_call 85; go_must (refine H.out.mono ?_); rintro e w1 ⟨rfl, hs, hf⟩))
  go_ret2
  exact ⟨rfl, hs, hf⟩

theorem null_all (s : Nat) (big : Bool) (ch : Int) (E : Value) (r : List Int) (n : Nat) (w : World) (h : Ss w s big ch E r) (hn : n ≤ r.length) (hz : ∀ j, j < n → r.getD j 0 ≠ 0) :
    Calls Tryd.prog 71 #[.pointer (some ⟨s, 0, none⟩), .int .i64 n] w (RetV w s big ch E (.string (tx (r.take n))) (r.drop n)) := by
  have H := Lib.hid (rdS_ok s big ch E r n w h hn)
  obtain ⟨v, xs, i, h1, _⟩ := id h
  have s4 : w.cell? ⟨s, 4, none⟩ = some (.int .i64 i) := (blk_cell h1.blk 4).trans rfl
  have hz' : ∀ j, j < (r.take n).length → (r.take n).getD j 0 ≠ 0 := fun j hj => by
    rw [List.length_take] at hj
    rw [List.getD_eq_getElem?_getD, List.getElem?_take_of_lt (by omega), ← List.getD_eq_getElem?_getD]
    exact hz j (by omega)
  have HZ := Lib.hid hz'
  clear h h1 hz hz' hn
  generalize r.take n = l at *
  generalize r.drop n = q at *
  go_enter Tryd.func71, Tryd.ntmps71
  go_wp2_with (first
    | (go_at_call 85; go_must (refine H.out.mono ?_); rintro e w1 ⟨u, rfl, hu, ho, hs, hf⟩; have hcv := str_conv hu)
    | (go_at_call 88; go_must (refine (zz_none u l w1 hu HZ.out).mono ?_); rintro e w2 ⟨rfl, rfl⟩))
  go_ret2
  exact ⟨rfl, hs, hf⟩

theorem null_found (s : Nat) (big : Bool) (ch : Int) (E : Value) (r : List Int) (n k : Nat) (w : World) (h : Ss w s big ch E r) (hn : n ≤ r.length) (hk0 : 0 < k) (hk : k < n) (h0 : r.getD k 0 = 0) (hz : ∀ j, j < k → r.getD j 0 ≠ 0) :
    Calls Tryd.prog 71 #[.pointer (some ⟨s, 0, none⟩), .int .i64 n] w (RetV w s big ch E (.string (tx (r.take k))) (r.drop (k + 1))) := by
  obtain ⟨v, xs, i, h1, hr, h3, h4⟩ := h
  have hle := h1.le
  have hlim := h1.lim
  have hrl : r.length = xs.length - i := by rw [hr, List.length_drop]
  have H := read_ok s v xs i n big ch w h1 (by omega)
  rw [← hr] at H
  have H := Lib.hid H
  have s4 : w.cell? ⟨s, 4, none⟩ = some (.int .i64 i) := (blk_cell h1.blk 4).trans rfl
  have hlen : (r.take n).length = n := by rw [List.length_take]; omega
  have gd : ∀ j, j < n → (r.take n).getD j 0 = r.getD j 0 := fun j hj => by
    rw [List.getD_eq_getElem?_getD, List.getElem?_take_of_lt hj, ← List.getD_eq_getElem?_getD]
  have hZ : ZAt (r.take n) k := ⟨by omega, by rw [gd k hk]; exact h0, fun j hj => by rw [gd j (by omega)]; exact hz j hj⟩
  have htt : (r.take n).take k = r.take k := by rw [List.take_take, Nat.min_eq_left (by omega)]
  have HZ := Lib.hid hZ
  have HE := Lib.hid h3
  have HR := Lib.hid (show r.drop (k + 1) = xs.drop (i + k + 1) by rw [hr, List.drop_drop]; congr 1)
  have HLE := Lib.hid (show i + k + 1 ≤ xs.length by omega)
  have HLN := Lib.hid hlen
  rw [← htt]
  have i1 : (i : Int) + k + 1 ≤ 2147483647 := by omega
  clear h1 h3 hr hlim hrl hle h0 hz hZ htt gd hlen hn
  generalize r.take n = l at *
  generalize r.drop (k + 1) = q at *
  go_enter Tryd.func71, Tryd.ntmps71
  go_wp2_with (first
    | (go_at_call 85; go_must (refine H.out.mono ?_); rintro e w1 ⟨u, rfl, hu, ho, hs, hf⟩; have z4 : w1.cell? ⟨s, 4, none⟩ = some (.int .i64 ((i + n : Nat) : Int)) := (blk_cell hs.blk 4).trans rfl; have f4 := blk_free hs.blk 4)
    | (go_at_call 88; go_must (refine (zz_found u l k w1 hu HZ.out).mono ?_); rintro e w2 ⟨rfl, rfl⟩; obtain ⟨b, o, c, rfl, hc1, hm1, hat⟩ := hu.at' (by rw [HLN.out]; omega); have hsl := run_cutH (P := Tryd.prog) u8 b o l.length c k k rfl (by rw [HLN.out] at hc1; omega); have hm2 : c ≤ 9223372036854775807 := (by simp only [maxLen] at hm1; omega); have hcv := str_conv ((hat.take k).rd (n := k) (c := c) (by rw [List.length_take, HLN.out]; omega) (by rw [HLN.out] at hc1; omega) hm1)))
  go_ret2
  have hf2 := hf.set 4 (.int .i64 ((i : Int) + k + 1))
  have hs2 := hs.at' (i + k + 1) HLE.out
  rw [show ((i + k + 1 : Nat) : Int) = (i : Int) + k + 1 by omega] at hs2
  exact ⟨rfl, ⟨v, xs, i + k + 1, hs2, HR.out, HE.out.fx hf2 (Nat.ne_of_lt h4), h4⟩, hf2⟩
end Go.Proofs.YtgkccbfepjgjoaaDoor

/- A step of a reader, as the thin package does it: words. -/
namespace Go.Proofs.YtgkccbfepjgjoaaDoor
open Go Go.RowKit

/-- What a step gives. -/
structure G where
  ok : Bool
  d : List Int
  o : List Int
  n : Int
  t : ByteArray

def zeroG : Value := .agg #[.bool false, .slice none 0 0, .slice none 0 0, .int .i64 0, .string ⟨#[]⟩]
def zeroCs : Array Value := #[.bool false, .slice none 0 0, .slice none 0 0, .int .i64 0, .string ⟨#[]⟩]

def RetG (w : World) (s : Nat) (big : Bool) (ch : Int) (E : Value) (x : Option (G × List Int)) (e : Ending) (w' : World) : Prop :=
  match x with
  | some (g, r) => ∃ dv ov, e = .returned (.agg #[.bool true, dv, ov, .int .i64 g.n, .string g.t]) ∧ Own w.heap.size w' dv g.d ∧ Own w.heap.size w' ov g.o ∧ Ss w' s big ch E r ∧ Fx s w w'
  | none => e = .returned zeroG ∧ (∃ r, Ss w' s big ch E r) ∧ Fx s w w'

/-- A block holds no bytes. -/
def NoU8 (cs : Array Value) : Prop := ∀ (i : Nat) (z : Int), cs[i]? ≠ some (.int .u8 z)
theorem Rd.far {w w' : World} {v : Value} {l : List Int} {g : Nat} {cs : Array Value} {T : TypeId} {fr : Nat × Nat} (h : Rd w v l) (hb : w.heap[g]? = some (.cells cs T fr)) (hn : NoU8 cs) (hf : Fx g w w') : Rd w' v l := by
  obtain ⟨p, c, rfl, h1, h2, h3, h4, h5⟩ := h
  refine ⟨p, c, rfl, h1, h2, h3, ?_, h5⟩
  intro hlen
  obtain ⟨b, o, rfl, hc⟩ := h4 hlen
  refine ⟨b, o, rfl, fun i hi => hf.cell (hc i hi) ?_⟩
  intro e
  have e : b = g := e
  subst e
  have := hc i hi
  rw [blk_cell hb] at this
  exact hn _ _ this
theorem noU8_got (a b c d e : Value) (ha : ∀ z, a ≠ .int .u8 z) (hb : ∀ z, b ≠ .int .u8 z) (hc : ∀ z, c ≠ .int .u8 z) (hd : ∀ z, d ≠ .int .u8 z) (he : ∀ z, e ≠ .int .u8 z) : NoU8 #[a, b, c, d, e] := by
  intro i z h
  match i with
  | 0 => exact ha z (by simpa using h)
  | 1 => exact hb z (by simpa using h)
  | 2 => exact hc z (by simpa using h)
  | 3 => exact hd z (by simpa using h)
  | 4 => exact he z (by simpa using h)
  | n + 5 => simp at h
theorem Rd.nu8 {w : World} {v : Value} {l : List Int} (h : Rd w v l) : ∀ z, v ≠ .int .u8 z := by
  obtain ⟨p, c, rfl, _⟩ := h
  intro z e; cases e

theorem Ss.fx2 {w w' : World} {s g : Nat} {big : Bool} {ch : Int} {E : Value} {r : List Int} (h : Ss w s big ch E r) (hf : Fx g w w') (hs : s < g) : Ss w' s big ch E r := by
  obtain ⟨v, xs, i, h1, h2, h3, h4⟩ := h
  exact ⟨v, xs, i, ⟨hf.heap h1.blk (by omega), h1.rd.fx hf (h1.off.off (by omega)), h1.off, h1.le, h1.lim⟩, h2, h3.fx hf (by omega), h4⟩

/-- The three blocks that a step lays: the step itself, what it returns, what it fills. -/
structure GB (w : World) (H : Nat) (k sz : Int) (be co : Bool) (rc gc : Array Value) : Prop where
  x : w.heap[H]? = some (.cells #[.int .i64 k, .int .i64 sz, .bool be, .bool co] 28 (0, 0))
  r : w.heap[H + 1]? = some (.cells rc 31 (0, 0))
  g : w.heap[H + 1 + 1]? = some (.cells gc 31 (0, 0))
theorem GB.new (w : World) (k sz : Int) (be co : Bool) : GB (((w.alloc (.cells #[.int .i64 k, .int .i64 sz, .bool be, .bool co] 28)).alloc (.cells zeroCs 31)).alloc (.cells zeroCs 31)) w.heap.size k sz be co zeroCs zeroCs :=
  ⟨(((Gr.refl _).alloc _).alloc _).heap (heap_alloc_new w _), ((Gr.refl _).alloc _).heap (heap_new_at _ _ (by simp)), heap_new_at _ _ (by simp)⟩
theorem GB.fx {w w' : World} {H s : Nat} {k sz : Int} {be co : Bool} {rc gc : Array Value} (h : GB w H k sz be co rc gc) (hf : Fx s w w') (hs : s < H) : GB w' H k sz be co rc gc :=
  ⟨hf.heap h.x (by omega), hf.heap h.r (by omega), hf.heap h.g (by omega)⟩
theorem GB.gr {w w' : World} {H : Nat} {k sz : Int} {be co : Bool} {rc gc : Array Value} (h : GB w H k sz be co rc gc) (hf : Gr w w') : GB w' H k sz be co rc gc :=
  ⟨hf.heap h.x, hf.heap h.r, hf.heap h.g⟩

theorem noU8_zero : NoU8 zeroCs := by
  intro i z h
  match i with
  | 0 => simp [zeroCs] at h
  | 1 => simp [zeroCs] at h
  | 2 => simp [zeroCs] at h
  | 3 => simp [zeroCs] at h
  | 4 => simp [zeroCs] at h
  | n + 5 => simp [zeroCs] at h

/-- Behind the two clones: the stores into what is filled, and into what is returned. -/
theorem got_fin {w X w3 : World} {s : Nat} {big : Bool} {ch : Int} {E : Value} {r dl ol : List Int} {dv ov : Value} (hs : s < w.heap.size) (hX : w.heap.size + 2 < X.heap.size) (hF : Fx s w X) (hS : Ss X s big ch E r) (hG : Gr X w3)
    (hd : Own X.heap.size w3 dv dl) (ho : Own X.heap.size w3 ov ol) (u1 u2 a0 a1 a2 a3 a4 : Value) :
    let Y := ((((((w3.setCell ⟨w.heap.size + 1 + 1, 1, none⟩ u1).setCell ⟨w.heap.size + 1 + 1, 2, none⟩ u2).setCell ⟨w.heap.size + 1, 0, none⟩ a0).setCell ⟨w.heap.size + 1, 1, none⟩ a1).setCell ⟨w.heap.size + 1, 2, none⟩ a2).setCell ⟨w.heap.size + 1, 3, none⟩ a3).setCell ⟨w.heap.size + 1, 4, none⟩ a4
    Own w.heap.size Y dv dl ∧ Own w.heap.size Y ov ol ∧ Ss Y s big ch E r ∧ Fx s w Y := by
  intro Y
  have f1 : Fx (w.heap.size + 1 + 1) w3 ((w3.setCell ⟨w.heap.size + 1 + 1, 1, none⟩ u1).setCell ⟨w.heap.size + 1 + 1, 2, none⟩ u2) := ((Fx.refl _ w3).set 1 _).set 2 _
  have f2 : Fx (w.heap.size + 1) ((w3.setCell ⟨w.heap.size + 1 + 1, 1, none⟩ u1).setCell ⟨w.heap.size + 1 + 1, 2, none⟩ u2) Y := (((((Fx.refl _ _).set 0 _).set 1 _).set 2 _).set 3 _).set 4 _
  have hb : Below w.heap.size X Y := (((((((hG.mono (by omega)).setCell (p := ⟨w.heap.size + 1 + 1, 1, none⟩) (by simp; omega) _).setCell (p := ⟨w.heap.size + 1 + 1, 2, none⟩) (by simp; omega) _).setCell (p := ⟨w.heap.size + 1, 0, none⟩) (by simp) _).setCell (p := ⟨w.heap.size + 1, 1, none⟩) (by simp) _).setCell (p := ⟨w.heap.size + 1, 2, none⟩) (by simp) _).setCell (p := ⟨w.heap.size + 1, 3, none⟩) (by simp) _).setCell (p := ⟨w.heap.size + 1, 4, none⟩) (by simp) _
  exact ⟨((hd.fx f1 (by omega)).fx f2 (by omega)).mono (by omega), ((ho.fx f1 (by omega)).fx f2 (by omega)).mono (by omega), hS.below hb hs, hF.below hb (Nat.le_refl _)⟩

end Go.Proofs.YtgkccbfepjgjoaaDoor
