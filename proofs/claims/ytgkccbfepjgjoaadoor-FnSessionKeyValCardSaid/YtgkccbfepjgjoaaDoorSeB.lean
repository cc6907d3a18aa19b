/- A session's readers of bytes: by what is left of its input. -/
import Derived.Test.YtgkccbfepjgjoaaDoorSeA
import Derived.Laws.CopyOwn
namespace Go.Proofs.YtgkccbfepjgjoaaDoor
open Go Go.RowKit

/-- A session that reads: r is left of its input, of N bytes. -/
def Ss (w : World) (s : Nat) (big : Bool) (ch : Int) (E : Value) (r : List Int) : Prop :=
  ∃ v xs i, Sn w s v xs i big ch ∧ r = xs.drop i ∧ EndE w E ∧ 3 < s

section
variable {w w' : World} {s : Nat} {big : Bool} {ch : Int} {E : Value} {r : List Int}
theorem Ss.drewN (h : Ss w s big ch E r) (n : Nat) : Ss (w.drewN n) s big ch E r := by
  obtain ⟨v, xs, i, h1, h2, h3, h4⟩ := h
  exact ⟨v, xs, i, h1.drewN n, h2, h3.gr ((Gr.refl w).drewN n), h4⟩
theorem Ss.gr (h : Ss w s big ch E r) (g : Gr w w') : Ss w' s big ch E r := by
  obtain ⟨v, xs, i, h1, h2, h3, h4⟩ := h
  exact ⟨v, xs, i, h1.gr g, h2, h3.gr g, h4⟩
theorem Ss.below {B : Nat} (h : Ss w s big ch E r) (g : Below B w w') (hs : s < B) : Ss w' s big ch E r := by
  obtain ⟨v, xs, i, h1, h2, h3, h4⟩ := h
  exact ⟨v, xs, i, h1.below g hs, h2, h3.below g (by omega), h4⟩
theorem Ss.byt (h : Ss w s big ch E r) : Byt r := by
  obtain ⟨v, xs, i, h1, rfl, h3, h4⟩ := h
  exact fun x hx => h1.rd.byt x (List.mem_of_mem_drop hx)
theorem Ss.len (h : Ss w s big ch E r) : r.length ≤ 2147483647 := by
  obtain ⟨v, xs, i, h1, rfl, h3, h4⟩ := h
  have := h1.lim
  rw [List.length_drop]; omega
theorem Ss.lt (h : Ss w s big ch E r) : s < w.heap.size := by
  obtain ⟨v, xs, i, h1, _⟩ := h
  exact lt_of_some h1.blk
theorem Ss.big' (h : Ss w s big ch E r) : w.cell? ⟨s, 5, none⟩ = some (.bool big) := by
  obtain ⟨v, xs, i, h1, _⟩ := h
  exact (blk_cell h1.blk 5).trans rfl
theorem Ss.err (h : Ss w s big ch E r) : ∃ T p, E = .iface T (.pointer (some p)) := by
  obtain ⟨v, xs, i, h1, h2, h3, h4⟩ := h
  exact h3.1
end

/-- What a reader of bytes gives where the input suffices; and where it does not. -/
def RetOk (w : World) (s : Nat) (big : Bool) (ch : Int) (E : Value) (out r : List Int) (e : Ending) (w' : World) : Prop :=
  ∃ u, e = .returned (.tuple #[u, .nilIface]) ∧ Rd w' u out ∧ LoV s u ∧ Ss w' s big ch E r ∧ Fx s w w'
def RetNo (w : World) (s : Nat) (big : Bool) (ch : Int) (E : Value) (z : Value) (e : Ending) (w' : World) : Prop :=
  e = .returned (.tuple #[z, E]) ∧ (∃ r, Ss w' s big ch E r) ∧ Fx s w w'
/-- A number, and no error. -/
def RetV (w : World) (s : Nat) (big : Bool) (ch : Int) (E : Value) (z : Value) (r : List Int) (e : Ending) (w' : World) : Prop :=
  e = .returned (.tuple #[z, .nilIface]) ∧ Ss w' s big ch E r ∧ Fx s w w'

theorem rdS_ok (s : Nat) (big : Bool) (ch : Int) (E : Value) (r : List Int) (n : Nat) (w : World) (h : Ss w s big ch E r) (hn : n ≤ r.length) :
    Calls Tryd.prog 85 #[.pointer (some ⟨s, 0, none⟩), .int .i64 n] w (RetOk w s big ch E (r.take n) (r.drop n)) := by
  obtain ⟨v, xs, i, h1, rfl, h3, h4⟩ := h
  have hle := h1.le
  rw [List.length_drop] at hn
  refine (read_ok s v xs i n big ch w h1 (by omega)).mono fun e w' => ?_
  rintro ⟨u, rfl, hu, ho, hs, hf⟩
  exact ⟨u, rfl, hu, ho, ⟨v, xs, i + n, hs, by rw [List.drop_drop], h3.fx hf (Nat.ne_of_lt h4), h4⟩, hf⟩

theorem rdS_no (s : Nat) (big : Bool) (ch : Int) (E : Value) (r : List Int) (n : Nat) (w : World) (h : Ss w s big ch E r) (hn : r.length < n) (hb : n ≤ 1152921504606846976) :
    Calls Tryd.prog 85 #[.pointer (some ⟨s, 0, none⟩), .int .i64 n] w (RetNo w s big ch E (.slice none 0 0)) := by
  have hh := h
  obtain ⟨v, xs, i, h1, rfl, h3, h4⟩ := h
  have hle := h1.le
  rw [List.length_drop] at hn
  refine (read_no s v xs i n big ch E w h1 h3 (by omega) hb).mono fun e w' => ?_
  rintro ⟨rfl, k, rfl⟩
  exact ⟨rfl, ⟨_, hh.drewN k⟩, (Fx.refl s w).drewN k⟩

theorem rd_one {w : World} {u : Value} {b : Int} (h : Rd w u [b]) : ∃ a o c, u = .slice (some ⟨a, o, none⟩) 1 c ∧ 1 ≤ c ∧ c ≤ 9223372036854775807 ∧ w.cell? ⟨a, o, none⟩ = some (.int .u8 b) := by
  obtain ⟨a, o, c, rfl, hc, hm, hat⟩ := h.at' (by simp)
  simp only [maxLen] at hm
  exact ⟨a, o, c, rfl, hc, by omega, by simpa using hat.cell 0 (by simp)⟩

theorem getBytes_ok (s : Nat) (big : Bool) (ch : Int) (E : Value) (r : List Int) (n : Nat) (w : World) (h : Ss w s big ch E r) (hn : n ≤ r.length) :
    Calls Tryd.prog 64 #[.pointer (some ⟨s, 0, none⟩), .int .i64 n] w (RetOk w s big ch E (r.take n) (r.drop n)) := by
  have H := Lib.hid (rdS_ok s big ch E r n w h hn)
  clear h
  go_enter Tryd.func64, Tryd.ntmps64
  go_wp2_with (first | (go_at_call 85; go_must (refine H.out.mono ?_); rintro e w1 ⟨u, rfl, hr⟩))
  go_ret2
  exact ⟨u, rfl, hr⟩
theorem getBytes_no (s : Nat) (big : Bool) (ch : Int) (E : Value) (r : List Int) (n : Nat) (w : World) (h : Ss w s big ch E r) (hn : r.length < n) (hb : n ≤ 1152921504606846976) :
    Calls Tryd.prog 64 #[.pointer (some ⟨s, 0, none⟩), .int .i64 n] w (RetNo w s big ch E (.slice none 0 0)) := by
  have H := Lib.hid (rdS_no s big ch E r n w h hn hb)
  clear h
  go_enter Tryd.func64, Tryd.ntmps64
  go_wp2_with (first | (go_at_call 85; go_must (refine H.out.mono ?_); rintro e w1 ⟨rfl, hr⟩))
  go_ret2
  exact ⟨rfl, hr⟩

theorem getByte_ok (s : Nat) (big : Bool) (ch : Int) (E : Value) (b : Int) (r : List Int) (w : World) (h : Ss w s big ch E (b :: r)) :
    Calls Tryd.prog 63 #[.pointer (some ⟨s, 0, none⟩)] w (RetV w s big ch E (.int .u8 b) r) := by
  have H := Lib.hid (show Calls Tryd.prog 85 #[.pointer (some ⟨s, 0, none⟩), .int .i64 1] w (RetOk w s big ch E [b] r) from rdS_ok s big ch E (b :: r) 1 w h (by simp))
  clear h
  go_enter Tryd.func63, Tryd.ntmps63
  go_wp2_with (first | (go_at_call 85; go_must (refine H.out.mono ?_); rintro e w1 ⟨u, rfl, hr, ho, hs, hf⟩; obtain ⟨b1, o1, c1, rfl, hc1, hm1, c0⟩ := rd_one hr))
  go_ret2
  exact ⟨rfl, hs, hf⟩
theorem getByte_no (s : Nat) (big : Bool) (ch : Int) (E : Value) (w : World) (h : Ss w s big ch E []) :
    Calls Tryd.prog 63 #[.pointer (some ⟨s, 0, none⟩)] w (RetNo w s big ch E (.int .u8 0)) := by
  have H := Lib.hid (rdS_no s big ch E [] 1 w h (by simp) (by omega))
  obtain ⟨T, p, rfl⟩ := h.err
  clear h
  go_enter Tryd.func63, Tryd.ntmps63
  go_wp2_with (first | (go_at_call 85; go_must (refine H.out.mono ?_); rintro e w1 ⟨rfl, hr⟩))
  go_ret2
  exact ⟨rfl, hr⟩

/-- To peek takes nothing. -/
theorem peek_ok (s : Nat) (big : Bool) (ch : Int) (E : Value) (r : List Int) (n : Nat) (w : World) (h : Ss w s big ch E r) (hn : n ≤ r.length) :
    Calls Tryd.prog 73 #[.pointer (some ⟨s, 0, none⟩), .int .i64 n] w (RetOk w s big ch E (r.take n) r) := by
  obtain ⟨v, xs, i, h1, rfl, h3, h4⟩ := h
  have hle := h1.le
  rw [List.length_drop] at hn
  have H := Lib.hid (read_ok s v xs i n big ch w h1 (by omega))
  have s4 : w.cell? ⟨s, 4, none⟩ = some (.int .i64 i) := (blk_cell h1.blk 4).trans rfl
  have HE := Lib.hid h3
  clear h1 h3
  go_enter Tryd.func73, Tryd.ntmps73
  go_wp2_with (first | (go_at_call 85; go_must (refine H.out.mono ?_); rintro e w1 ⟨u, rfl, hu, ho, hs, hf⟩; have z4 : w1.cell? ⟨s, 4, none⟩ = some (.int .i64 ((i + n : Nat) : Int)) := (blk_cell hs.blk 4).trans rfl; have f4 := blk_free hs.blk 4))
  go_ret2
  have hf2 := hf.set 4 (.int .i64 (i : Int))
  exact ⟨u, rfl, hu.fx ((Fx.refl s w1).set 4 _) (ho.off (Nat.le_refl _)), ho, ⟨v, xs, i, hs.at' i hle, rfl, HE.out.fx hf2 (Nat.ne_of_lt h4), h4⟩, hf2⟩
theorem peek_no (s : Nat) (big : Bool) (ch : Int) (E : Value) (r : List Int) (n : Nat) (w : World) (h : Ss w s big ch E r) (hn : r.length < n) (hb : n ≤ 1152921504606846976) :
    Calls Tryd.prog 73 #[.pointer (some ⟨s, 0, none⟩), .int .i64 n] w (RetNo w s big ch E (.slice none 0 0)) := by
  obtain ⟨v, xs, i, h1, rfl, h3, h4⟩ := h
  have hle := h1.le
  rw [List.length_drop] at hn
  have H := Lib.hid (read_no s v xs i n big ch E w h1 h3 (by omega) hb)
  have s4 : w.cell? ⟨s, 4, none⟩ = some (.int .i64 i) := (blk_cell h1.blk 4).trans rfl
  have f4 := blk_free h1.blk 4
  have HE := Lib.hid h3
  have HS := Lib.hid h1
  obtain ⟨⟨T, p, rfl⟩, _⟩ := h3
  clear h1
  go_enter Tryd.func73, Tryd.ntmps73
  go_wp2_with (first | (go_at_call 85; go_must (refine H.out.mono ?_); rintro e w1 ⟨rfl, k, rfl⟩))
  go_ret2
  have hf2 := ((Fx.refl s w).drewN k).set 4 (.int .i64 (i : Int))
  exact ⟨rfl, ⟨_, v, xs, i, (HS.out.drewN k).at' i hle, rfl, HE.out.fx hf2 (Nat.ne_of_lt h4), h4⟩, hf2⟩
end Go.Proofs.YtgkccbfepjgjoaaDoor
