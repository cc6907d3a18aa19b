/- The reference's reader: compressed numbers. -/
import Derived.Test.YtgkccbfepjgjoaaDoorSeRb
namespace Go.Proofs.YtgkccbfepjgjoaaDoor
open Go Go.RowKit

theorem Sx.drewN {w : World} {r : Nat} {xs : List Int} {t o : Bool} (h : Sx w r xs t o) (n : Nat) : Sx (w.drewN n) r xs t o := h.gr ((Gr.refl w).drewN n)
theorem Sx.byt {w : World} {r : Nat} {xs : List Int} {t o : Bool} (h : Sx w r xs t o) : Byt xs := by obtain ⟨v, _, ⟨_, _, _, _, _, _, _, hb⟩, _⟩ := h; exact hb
theorem Sx.c1 {w : World} {r : Nat} {xs : List Int} {t o : Bool} (h : Sx w r xs t o) : w.cell? ⟨r, 1, none⟩ = some (.bool t) := by obtain ⟨v, h1, _⟩ := h; exact (blk_cell h1 1).trans rfl
theorem Sx.c2 {w : World} {r : Nat} {xs : List Int} {t o : Bool} (h : Sx w r xs t o) : w.cell? ⟨r, 2, none⟩ = some (.bool o) := by obtain ⟨v, h1, _⟩ := h; exact (blk_cell h1 2).trans rfl
theorem Sx.f2 {w : World} {r : Nat} {xs : List Int} {t o : Bool} (h : Sx w r xs t o) : w.frozen? ⟨r, 2, none⟩ = false := by obtain ⟨v, h1, _⟩ := h; exact blk_free h1 2
theorem Sx.open' {w : World} {r : Nat} {xs : List Int} {t o : Bool} (h : Sx w r xs t o) : Sx (w.setCell ⟨r, 2, none⟩ (.bool true)) r xs t true := by
  obtain ⟨v, h1, h2, h3, h5, h4⟩ := h
  exact ⟨v, by rw [blk_set h1]; simp, h2.fx ((Fx.refl r w).set 2 _) h3, h3, by simpa using h5, h4⟩
theorem Fk.open' {r : Nat} {a w : World} {xs : List Int} {t o : Bool} (h : Fk r a w) (hs : Sx w r xs t o) : Fk r a (w.setCell ⟨r, 2, none⟩ (.bool true)) := by
  obtain ⟨v, h1, _⟩ := hs
  exact h.set h1 2 (by decide) _

set_option maxRecDepth 100000 in
theorem number_no (r : Nat) (xs : List Int) (n : Nat) (be : Bool) (w : World) (h : Sx w r xs false false) (hn : xs.length < n) :
    Calls Tryd.prog 54 #[.pointer (some ⟨r, 0, none⟩), .int .i64 (n : Nat), .bool be] w (RetTn w r (.int .u64 0) false) := by
  have HT := Lib.hid (take_no r xs n w h hn)
  clear h hn
  cases be
  all_goals
    go_enter Tryd.func54, Tryd.ntmps54
    go_wp2_with (first
      | (go_at_call 50; go_must (refine HT.out.mono ?_); rintro e w1 ⟨rfl, ⟨q, hs1⟩, hf1⟩)
      | (go_at_call 56; go_must (refine (slicesClone (.slice none 0 0) [] w1 (Rd.nil _) (by simp)).mono ?_); rintro e w2 ⟨u2, rfl, ho2, hg2⟩; have hf2 := hf1.trans (Fk.of_gr hg2 hs1.lt); obtain ⟨p2, c2, rfl, _⟩ := id ho2.rd)
      | (go_at_call 22; go_must (refine (reverse_none _ _ _).mono ?_); rintro e w3 ⟨rfl, rfl⟩))
    go_loop [20, 8] (fun i o => i = .int .i64 0 ∧ o = .int .u64 0) (fun _ _ => 0)
    case atStart => exact ⟨rfl, rfl⟩
    case round =>
      obtain ⟨rfl, rfl⟩ := hrel
      go_wp2
      go_ret
      exact ⟨rfl, ⟨q, hs1.gr hg2⟩, hf2⟩

/-- What 'packed' gives. -/
def RetPk (w : World) (r : Nat) (xs : List Int) (e : Ending) (w' : World) : Prop :=
  (∃ z q, PkShort xs ∧ rdPk xs = some (z, q) ∧ e = .returned (.int .i64 z) ∧ Sx w' r q false false ∧ Fk r w w') ∨
  (PkShort xs ∧ rdPk xs = none ∧ e = .returned (.int .i64 0) ∧ (∃ q, Sx w' r q true false) ∧ Fk r w w') ∨
  (e = .returned (.int .i64 0) ∧ (∃ q, Sx w' r q false true) ∧ Fk r w w')

theorem packed_torn (r : Nat) (w : World) (h : Sx w r [] false false) :
    Calls Tryd.prog 53 #[.pointer (some ⟨r, 0, none⟩)] w (RetTn w r (.int .i64 0) false) := by
  have HT := Lib.hid (take_no r [] 1 w h (by simp))
  clear h
  go_enter Tryd.func53, Tryd.ntmps53
  go_wp2_with (first
    | (go_at_call 50; go_must (refine HT.out.mono ?_); rintro e w1 ⟨rfl, ⟨q, hs1⟩, hf1⟩; have c1 := hs1.c1))
  go_ret
  exact ⟨rfl, ⟨q, hs1⟩, hf1⟩

set_option maxRecDepth 100000 in
theorem packed_open (r : Nat) (b : Int) (t : List Int) (w : World) (h : Sx w r (b :: t) false false) (hb : 8 < b % 128) :
    Calls Tryd.prog 53 #[.pointer (some ⟨r, 0, none⟩)] w fun e w' => e = .returned (.int .i64 0) ∧ (∃ q, Sx w' r q false true) ∧ Fk r w w' := by
  have HT := Lib.hid (take_ok r (b :: t) 1 w h (by simp))
  have hbt := h.byt b (by simp)
  have e1 : (b :: t).take 1 = [b] := by simp
  have e2 : (b :: t).drop 1 = t := by simp
  rw [e1, e2] at HT
  have ha := and127 b (by omega) (by omega)
  obtain ⟨s, hs⟩ : ∃ s, b % 128 = s := ⟨_, rfl⟩
  rw [hs] at ha hb
  have hs0 : 0 ≤ s ∧ s < 128 := by omega
  have hw : IntKind.i64.wrap s = s := IntWalk.i64_in _ (by omega)
  have hw8 : IntKind.u8.wrap s = s := by rw [IntKind.wrap_u8]; omega
  clear h e1 e2 hs
  go_enter Tryd.func53, Tryd.ntmps53
  go_wp2_with (first
    | (go_at_call 50; go_must (refine HT.out.mono ?_); rintro e w1 ⟨u1, rfl, hr1, ho1, _, _, hs1, hf1⟩; have c1 := hs1.c1; have c2 := hs1.c2; have f2 := hs1.f2; obtain ⟨a, o, c, rfl, hc, hcm, k0⟩ := rd_one hr1))
  go_quiet (fail)
  go_wp2
  go_ret
  exact ⟨rfl, ⟨_, (hs1.drewN _).open'⟩, (hf1.drewN _).open' (hs1.drewN _)⟩

set_option maxRecDepth 100000 in
set_option maxHeartbeats 1000000 in
theorem packed_some (r : Nat) (b : Int) (t : List Int) (w : World) (h : Sx w r (b :: t) false false) (hb : b % 128 ≤ 8) :
    Calls Tryd.prog 53 #[.pointer (some ⟨r, 0, none⟩)] w (RetPk w r (b :: t)) := by
  have HT := Lib.hid (take_ok r (b :: t) 1 w h (by simp))
  have hbt := h.byt b (by simp)
  have e1 : (b :: t).take 1 = [b] := by simp
  have e2 : (b :: t).drop 1 = t := by simp
  rw [e1, e2] at HT
  have ha := and127 b (by omega) (by omega)
  obtain ⟨m, hm⟩ : ∃ m : Nat, b % 128 = (m : Int) := ⟨(b % 128).toNat, by omega⟩
  rw [hm] at ha hb
  have hmt : (b % 128).toNat = m := by omega
  have hw : IntKind.i64.wrap (m : Int) = m := IntWalk.i64_in _ (by omega)
  have hw8 : IntKind.u8.wrap (m : Int) = m := by rw [IntKind.wrap_u8]; omega
  have hps : PkShort (b :: t) := by show b % 128 ≤ 8; omega
  have hrd : rdPk (b :: t) = if m ≤ t.length then some (pkV b (t.take m), t.drop m) else none := by
    show (if (b % 128).toNat ≤ t.length then some (pkV b (t.take (b % 128).toNat), t.drop (b % 128).toNat) else none) = _
    rw [hmt]
  by_cases hml : m ≤ t.length
  · rw [if_pos hml] at hrd
    -- the number behind it
    have HN : ∀ w1, Sx w1 r t false false → Hid (Calls Tryd.prog 54 #[.pointer (some ⟨r, 0, none⟩), .int .i64 (m : Nat), .bool true] w1 (RetU w1 r (numU true (t.take m)) (t.drop m))) := fun w1 h1 => by
      by_cases h0 : m = 0
      · subst h0
        have := num_zero r t true w1 h1
        rw [List.take_zero, List.drop_zero]
        exact Lib.hid this
      · exact Lib.hid (number_ok r t m true w1 h1 (by omega) (by omega) hml)
    obtain ⟨Z, hZ⟩ : ∃ Z, numV true (t.take m) = Z := ⟨_, rfl⟩
    have hZb := numV_bd true (t.take m)
    rw [hZ] at hZb
    have hU : IntKind.i64.wrap (numU true (t.take m)) = Z := by rw [← hZ]; unfold numV numU; rw [IntKind.wrap_i64]; unfold wrap64; simp
    have hbv : pkV b (t.take m) = if m = 0 then 0 else if 128 ≤ b then wrap64 (-Z) else Z := by
      unfold pkV
      rw [hZ]
      by_cases h0 : m = 0
      · rw [if_pos h0, if_pos (by omega)]
      · rw [if_neg h0, if_neg (by omega)]
    have hZ0 : m = 0 → Z = 0 := fun h0 => by
      subst h0
      rw [← hZ, List.take_zero]
      unfold numV wrap64
      simp [Lib.beZ, Lib.beFromZ]
    obtain ⟨U, hUe⟩ : ∃ U, numU true (t.take m) = U := ⟨_, rfl⟩
    rw [hUe] at hU HN
    have HP := Lib.hid hps
    have HR := Lib.hid hrd
    have HB := Lib.hid hbv
    have HZ0 := Lib.hid hZ0
    clear h e1 e2 hmt hps hrd hbv hZ0 hZ hUe hm
    by_cases h128 : 128 ≤ b
    · go_enter Tryd.func53, Tryd.ntmps53
      go_wp2_with (first
        | (go_at_call 50; go_must (refine HT.out.mono ?_); rintro e w1 ⟨u1, rfl, hr1, ho1, _, _, hs1, hf1⟩; have c1 := hs1.c1; have c2 := hs1.c2; have f2 := hs1.f2; obtain ⟨a, o, c, rfl, hc, hcm, k0⟩ := rd_one hr1))
      go_quiet (fail)
      have hs2 := hs1.drewN
      have hf2 := hf1.drewN
      go_wp2_with (first
        | (go_at_call 54; go_must (refine (HN _ (hs2 _)).out.mono ?_); rintro e w3 ⟨rfl, hs3, hf3⟩))
      go_ret
      refine .inl ⟨_, _, HP.out, HR.out, ?_, hs3, (hf2 _).trans hf3⟩
      rw [HB.out]
      by_cases h0 : m = 0
      · have hz := HZ0.out h0
        subst hz
        rw [if_pos h0]
        first | rfl | simp [wrap64]
      · rw [if_neg h0, if_pos h128]
        first | rfl | (simp; done) | (congr 2; first | rfl | (unfold wrap64; omega))
    · have h128' : b < 128 := by omega
      go_enter Tryd.func53, Tryd.ntmps53
      go_wp2_with (first
        | (go_at_call 50; go_must (refine HT.out.mono ?_); rintro e w1 ⟨u1, rfl, hr1, ho1, _, _, hs1, hf1⟩; have c1 := hs1.c1; have c2 := hs1.c2; have f2 := hs1.f2; obtain ⟨a, o, c, rfl, hc, hcm, k0⟩ := rd_one hr1))
      go_quiet (fail)
      have hs2 := hs1.drewN
      have hf2 := hf1.drewN
      go_wp2_with (first
        | (go_at_call 54; go_must (refine (HN _ (hs2 _)).out.mono ?_); rintro e w3 ⟨rfl, hs3, hf3⟩))
      go_ret
      refine .inl ⟨_, _, HP.out, HR.out, ?_, hs3, (hf2 _).trans hf3⟩
      rw [HB.out]
      by_cases h0 : m = 0
      · have hz := HZ0.out h0
        subst hz
        rw [if_pos h0]
        first | rfl | simp [wrap64]
      · rw [if_neg h0, if_neg (by omega)]
        first | rfl | simp
  · rw [if_neg hml] at hrd
    have HN := fun w1 h1 => Lib.hid (number_no r t m true w1 h1 (by omega))
    have HP := Lib.hid hps
    have HR := Lib.hid hrd
    clear h e1 e2 hmt hps hrd hm
    by_cases h128 : 128 ≤ b
    all_goals
      go_enter Tryd.func53, Tryd.ntmps53
      go_wp2_with (first
        | (go_at_call 50; go_must (refine HT.out.mono ?_); rintro e w1 ⟨u1, rfl, hr1, ho1, _, _, hs1, hf1⟩; have c1 := hs1.c1; have c2 := hs1.c2; have f2 := hs1.f2; obtain ⟨a, o, c, rfl, hc, hcm, k0⟩ := rd_one hr1))
      go_quiet (fail)
      have hs2 := hs1.drewN
      have hf2 := hf1.drewN
      go_wp2_with (first
        | (go_at_call 54; go_must (refine (HN _ (hs2 _)).out.mono ?_); rintro e w3 ⟨rfl, ⟨q, hs3⟩, hf3⟩))
      go_ret
      exact .inr (.inl ⟨HP.out, HR.out, rfl, ⟨q, hs3⟩, (hf2 _).trans hf3⟩)

theorem packed (r : Nat) (xs : List Int) (w : World) (h : Sx w r xs false false) :
    Calls Tryd.prog 53 #[.pointer (some ⟨r, 0, none⟩)] w (RetPk w r xs) := by
  cases xs with
  | nil => exact (packed_torn r w h).mono fun e w' ⟨h1, h2, h3⟩ => .inr (.inl ⟨trivial, rfl, h1, h2, h3⟩)
  | cons b t =>
    by_cases hb : b % 128 ≤ 8
    · exact packed_some r b t w h hb
    · exact (packed_open r b t w h (by omega)).mono fun e w' h => .inr (.inr h)
theorem packed_dead (r : Nat) (xs : List Int) (o : Bool) (w : World) (h : Sx w r xs true o) :
    Calls Tryd.prog 53 #[.pointer (some ⟨r, 0, none⟩)] w (RetTn w r (.int .i64 0) o) := by
  have HT := Lib.hid (take_torn r xs 1 o w h)
  clear h
  go_enter Tryd.func53, Tryd.ntmps53
  go_wp2_with (first
    | (go_at_call 50; go_must (refine HT.out.mono ?_); rintro e w1 ⟨rfl, ⟨q, hs1⟩, hf1⟩; have c1 := hs1.c1))
  go_ret
  exact ⟨rfl, ⟨q, hs1⟩, hf1⟩
end Go.Proofs.YtgkccbfepjgjoaaDoor
