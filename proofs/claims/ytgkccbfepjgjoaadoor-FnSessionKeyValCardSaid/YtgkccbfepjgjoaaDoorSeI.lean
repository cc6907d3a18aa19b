/- A session's readers of a key and a value, of a text that ends with a 0; and whether a number is long. -/
import Derived.Test.YtgkccbfepjgjoaaDoorSeH
import Derived.LoopTactic
namespace Go.Proofs.YtgkccbfepjgjoaaDoor
open Go Go.RowKit

/-- What reading a key, a value and a flag gives. -/
def RetK (w : World) (s : Nat) (big : Bool) (ch : Int) (E : Value) (o : Option (List Int × List Int × Int × List Int)) (e : Ending) (w' : World) : Prop :=
  match o with
  | some (k, v, n, r) => ∃ u1 u2, e = .returned (.tuple #[u1, u2, .int .i64 n, .nilIface]) ∧ Rd w' u1 k ∧ Rd w' u2 v ∧ Ss w' s big ch E r ∧ Fx s w w'
  | none => ∃ p1 n1 c1 p2 n2 c2, e = .returned (.tuple #[.slice p1 n1 c1, .slice p2 n2 c2, .int .i64 0, E]) ∧ (∃ r, Ss w' s big ch E r) ∧ Fx s w w'

theorem keyVal_ok (s : Nat) (big : Bool) (ch : Int) (E : Value) (r r1 r2 k v : List Int) (o : Option (Int × List Int)) (w : World) (h : Ss w s big ch E r) (h1 : Dlc big r (some (k, r1))) (h2 : Dlc big r1 (some (v, r2))) (h3 : PkShort r2) (ho : rdPk r2 = o) :
    Calls Tryd.prog 70 #[.pointer (some ⟨s, 0, none⟩)] w (RetK w s big ch E (o.map fun p => (k, v, p.1, p.2))) := by
  have H1 := Lib.hid (getDlc s big ch E r _ w h h1)
  have H2 := fun w hs => Lib.hid (getDlc s big ch E r1 _ w hs h2)
  have H3 := fun w hs => Lib.hid (getInt_pk s big ch E 4 true r2 w hs h3)
  rw [ho] at H3
  obtain ⟨T, p, rfl⟩ := h.err
  clear h h1 h2 h3 ho
  cases o with
  | none =>
    go_enter Tryd.func70, Tryd.ntmps70
    go_wp2_with (first
      | (go_at_call 67; (with_reducible refine (H2 _ hs1).out.mono ?_); rintro e w2 ⟨u2, rfl, hu2, ho2, hs2, hf2⟩)
      | (go_at_call 67; (with_reducible refine H1.out.mono ?_); rintro e w1 ⟨u1, rfl, hu1, ho1, hs1, hf1⟩; clear H1)
      | (go_at_call 69; (with_reducible refine (H3 _ hs2).out.mono ?_); rintro e w3 ⟨rfl, hs3, hf3⟩))
    obtain ⟨p1, c1, rfl, _⟩ := id hu1
    obtain ⟨p2, c2, rfl, _⟩ := id hu2
    refine bodyPost_ret (v := .tuple #[.slice p1 k.length c1, .slice p2 v.length c2, .int .i64 0, .iface T (.pointer (some p))]) (by simp [results, Tryd.results70, go_sem]) rfl ⟨_, _, _, _, _, _, rfl, hs3, (hf1.trans hf2).trans hf3⟩
  | some q =>
    obtain ⟨n, r3⟩ := q
    go_enter Tryd.func70, Tryd.ntmps70
    go_wp2_with (first
      | (go_at_call 67; (with_reducible refine (H2 _ hs1).out.mono ?_); rintro e w2 ⟨u2, rfl, hu2, ho2, hs2, hf2⟩)
      | (go_at_call 67; (with_reducible refine H1.out.mono ?_); rintro e w1 ⟨u1, rfl, hu1, ho1, hs1, hf1⟩; clear H1)
      | (go_at_call 69; (with_reducible refine (H3 _ hs2).out.mono ?_); rintro e w3 ⟨rfl, hs3, hf3⟩))
    refine bodyPost_ret (v := .tuple #[u1, u2, .int .i64 n, .nilIface]) (by simp [results, Tryd.results70, go_sem]) rfl ⟨_, _, rfl, hu1.fx (hf2.trans hf3) ho1, hu2.fx hf3 ho2, hs3, (hf1.trans hf2).trans hf3⟩
theorem keyVal_no1 (s : Nat) (big : Bool) (ch : Int) (E : Value) (r : List Int) (w : World) (h : Ss w s big ch E r) (h1 : Dlc big r none) :
    Calls Tryd.prog 70 #[.pointer (some ⟨s, 0, none⟩)] w (RetK w s big ch E none) := by
  have H1 := Lib.hid (getDlc s big ch E r _ w h h1)
  obtain ⟨T, p, rfl⟩ := h.err
  clear h h1
  go_enter Tryd.func70, Tryd.ntmps70
  go_wp2_with (first
    | (go_at_call 67; (with_reducible refine H1.out.mono ?_); rintro e w1 ⟨rfl, hs1, hf1⟩))
  refine bodyPost_ret (v := .tuple #[.slice none 0 0, .slice none 0 0, .int .i64 0, .iface T (.pointer (some p))]) (by simp [results, Tryd.results70, go_sem]) rfl ⟨_, _, _, _, _, _, rfl, hs1, hf1⟩
theorem keyVal_no2 (s : Nat) (big : Bool) (ch : Int) (E : Value) (r r1 k : List Int) (w : World) (h : Ss w s big ch E r) (h1 : Dlc big r (some (k, r1))) (h2 : Dlc big r1 none) :
    Calls Tryd.prog 70 #[.pointer (some ⟨s, 0, none⟩)] w (RetK w s big ch E none) := by
  have H1 := Lib.hid (getDlc s big ch E r _ w h h1)
  have H2 := fun w hs => Lib.hid (getDlc s big ch E r1 _ w hs h2)
  obtain ⟨T, p, rfl⟩ := h.err
  clear h h1 h2
  go_enter Tryd.func70, Tryd.ntmps70
  go_wp2_with (first
    | (go_at_call 67; (with_reducible refine (H2 _ hs1).out.mono ?_); rintro e w2 ⟨rfl, hs2, hf2⟩)
    | (go_at_call 67; (with_reducible refine H1.out.mono ?_); rintro e w1 ⟨u1, rfl, hu1, ho1, hs1, hf1⟩; clear H1))
  obtain ⟨p1, c1, rfl, _⟩ := id hu1
  refine bodyPost_ret (v := .tuple #[.slice p1 k.length c1, .slice none 0 0, .int .i64 0, .iface T (.pointer (some p))]) (by simp [results, Tryd.results70, go_sem]) rfl ⟨_, _, _, _, _, _, rfl, hs2, hf1.trans hf2⟩

theorem and127' : ∀ b : Fin 256, bits .and .u8 (b.val : Int) 127 = (b.val : Int) % 128 := by decide +kernel
theorem and127 (b : Int) (h0 : 0 ≤ b) (h1 : b < 256) : bits .and .u8 b 127 = b % 128 := by
  have := and127' ⟨b.toNat, by omega⟩
  rwa [Int.toNat_of_nonneg h0] at this

theorem peek_nil (s : Nat) (big : Bool) (ch : Int) (E : Value) (w : World) (h : Ss w s big ch E []) :
    Calls Tryd.prog 73 #[.pointer (some ⟨s, 0, none⟩), .int .i64 1] w fun e w' => e = .returned (.tuple #[.slice none 0 0, E]) ∧ Ss w' s big ch E [] ∧ Fx s w w' := by
  obtain ⟨v, xs, i, h1, hr, h3, h4⟩ := h
  have hle := h1.le
  have hlx : xs.length = i := by
    have := congrArg List.length hr
    rw [List.length_nil, List.length_drop] at this
    omega
  have H := Lib.hid (read_no s v xs i 1 big ch E w h1 h3 (by omega) (by omega))
  have s4 : w.cell? ⟨s, 4, none⟩ = some (.int .i64 i) := (blk_cell h1.blk 4).trans rfl
  have f4 := blk_free h1.blk 4
  have HE := Lib.hid h3
  have HS := Lib.hid h1
  have HR := Lib.hid hr
  obtain ⟨⟨T, p, rfl⟩, _⟩ := h3
  clear h1 hr hlx
  go_enter Tryd.func73, Tryd.ntmps73
  go_wp2_with (first | (go_at_call 85; go_must (refine H.out.mono ?_); rintro e w1 ⟨rfl, k, rfl⟩))
  go_ret2
  have hf2 := ((Fx.refl s w).drewN k).set 4 (.int .i64 (i : Int))
  exact ⟨rfl, ⟨v, xs, i, (HS.out.drewN k).at' i hle, HR.out, HE.out.fx hf2 (Nat.ne_of_lt h4), h4⟩, hf2⟩

/-- Whether the next compressed number has more than eight bytes. -/
theorem long_no (s : Nat) (big : Bool) (ch : Int) (E : Value) (r : List Int) (w : World) (h : Ss w s big ch E r) (hs : PkShort r) :
    Calls Tryd.prog 66 #[.pointer (some ⟨s, 0, none⟩)] w fun e w' => e = .returned (.bool false) ∧ Ss w' s big ch E r ∧ Fx s w w' := by
  cases r with
  | nil =>
    have HQ := Lib.hid (peek_nil s big ch E w h)
    obtain ⟨T, p, rfl⟩ := h.err
    clear h
    go_enter Tryd.func66, Tryd.ntmps66
    go_wp2_with (first | (go_at_call 73; go_must (refine HQ.out.mono ?_); rintro e w1 ⟨rfl, hs1, hf1⟩))
    go_ret
    exact ⟨rfl, hs1, hf1⟩
  | cons b t =>
    have hb := h.byt b (by simp)
    have hs : b % 128 ≤ 8 := hs
    have HP := Lib.hid (show Calls Tryd.prog 73 #[.pointer (some ⟨s, 0, none⟩), .int .i64 1] w (RetOk w s big ch E [b] (b :: t)) from peek_ok s big ch E (b :: t) 1 w h (by simp))
    obtain ⟨h0, h1⟩ := hb
    have ha := and127 b h0 h1
    have hlt : b % 128 ≤ 8 := hs
    clear h hs
    go_enter Tryd.func66, Tryd.ntmps66
    go_wp2_with (first | (go_at_call 73; go_must (refine HP.out.mono ?_); rintro e w1 ⟨u, rfl, hu, ho, hs1, hf1⟩; obtain ⟨b1, o1, c1, rfl, hc1, hm1, k0⟩ := rd_one hu))
    go_ret
    exact ⟨by simp; omega, hs1, hf1⟩
end Go.Proofs.YtgkccbfepjgjoaaDoor
