/- FnServerEqual. -/
import Derived.Test.YtkonfcgdokabaaaDoorCfV
namespace Go.Proofs.YtkonfcgdokabaaaDoor
open Go Go.RowKit

theorem srvEq_symm (a : List UInt8) (m : Int) (b : List UInt8) (n : Int) : srvEq b n a m = srvEq a m b n := by
  unfold srvEq
  have e1 : decide (b.map lowB = a.map lowB) = decide (a.map lowB = b.map lowB) := by rw [decide_eq_decide]; exact eq_comm
  have e2 : (n == m) = (m == n) := by
    by_cases h : m = n
    · subst h; rfl
    · rw [beq_eq_false_iff_ne.2 h, beq_eq_false_iff_ne.2 (Ne.symm h)]
  rw [e1, e2]
theorem srvEq_refl (a : List UInt8) (m : Int) : srvEq a m a m = true := by simp [srvEq]

theorem Gr.cell' {a w : World} (h : Gr a w) {p : Addr} {x : Option Value} (hc : a.cell? p = x) (v : Value) (hv : x = some v) : w.cell? p = some v := h.cell (hc.trans hv)
theorem two_boxes (p1 p2 S1 S2 : ByteArray) (n1 n2 : Int) (w : World) (T : TypeId) (w2 : World) (hg2 : Gr ((w.alloc (.cells #[.string p1, .string S1, .int .i64 n1] T)).alloc (.cells #[.string p2, .string S2, .int .i64 n2] T)) w2) (H : Nat) (hH : w.heap.size = H) :
    Gr w w2 ∧ w2.cell? ⟨H, 0, none⟩ = some (.string p1) ∧ w2.cell? ⟨H, 1, none⟩ = some (.string S1) ∧ w2.cell? ⟨H, 2, none⟩ = some (.int .i64 n1) ∧ w2.cell? ⟨H + 1, 0, none⟩ = some (.string p2) ∧ w2.cell? ⟨H + 1, 1, none⟩ = some (.string S2) ∧ w2.cell? ⟨H + 1, 2, none⟩ = some (.int .i64 n2) := by
  have h1 := fun i => hg2.cell' (blk_cell (heap_new_at (w.alloc (.cells #[.string p1, .string S1, .int .i64 n1] T)) (.cells #[.string p2, .string S2, .int .i64 n2] T) (show H + 1 = _ by simp [hH])) i)
  have h2 := fun i => ((((Gr.refl _).alloc _).trans hg2).cell' (blk_cell (heap_new_at w (.cells #[.string p1, .string S1, .int .i64 n1] T) hH.symm) i))
  exact ⟨(((Gr.refl w).alloc _).alloc _).trans hg2, h2 0 _ rfl, h2 1 _ rfl, h2 2 _ rfl, h1 0 _ rfl, h1 1 _ rfl, h1 2 _ rfl⟩
theorem srvAt2 (w : World) (T : TypeId) (B : Nat) (hB : B = w.heap.size) (s t : Srv) :
    SrvAt (w.alloc (.cells #[.string s.p, .string (bs s.a), .int .i64 s.n, .string t.p, .string (bs t.a), .int .i64 t.n] T)) B [s, t] := by
  have h := fun i => blk_cell (heap_new_at w (.cells #[.string s.p, .string (bs s.a), .int .i64 s.n, .string t.p, .string (bs t.a), .int .i64 t.n] T) hB) i
  constructor
  all_goals
    intro j hj
    have hj : j < 2 := hj
    match j, hj with
    | 0, _ => exact (h _).trans rfl
    | 1, _ => exact (h _).trans rfl

set_option maxRecDepth 100000 in
set_option maxHeartbeats 4000000 in
theorem lawServerEqual (p1 p2 : ByteArray) (L1 L2 : List UInt8) (n1 n2 : Int) (w : World) (ht : Tab10 w) :
    Calls Tryd.prog 7 #[.agg #[.string p1, .string (bs L1), .int .i64 n1], .agg #[.string p2, .string (bs L2), .int .i64 n2]] w fun e w' => e = .returned (.bool true) ∧ Gr w w' := by
  have HF1 := fun w => Lib.hid (zfits1 p1 (bs L1) n1 w)
  have HF2 := fun w => Lib.hid (zfits1 p2 (bs L2) n2 w)
  have HA := fun w ht => Lib.hid (awakeC w ht)
  obtain ⟨H, hH⟩ : ∃ H, w.heap.size = H := ⟨_, rfl⟩
  have KW : ∀ w2, _ → Hid _ := fun w2 hg2 => Lib.hid (two_boxes p1 p2 (bs L1) (bs L2) n1 n2 w 26 w2 hg2 H hH)
  by_cases hf1 : p1.size ≤ 2147483647 ∧ (bs L1).size ≤ 2147483647
  rotate_left
  · rw [decide_eq_false hf1] at HF1
    generalize bs L1 = S1 at *
    generalize bs L2 = S2 at *
    clear hf1
    go_enter Tryd.func7, Tryd.ntmps7
    go_wp2_with (first
      | (go_at_call 19; with_reducible refine (HF1 _).out.mono ?_; rintro e w2 ⟨rfl, hg2⟩))
    go_ret
    exact ⟨rfl, Gr.trans (((Gr.refl w).alloc _).alloc _) hg2⟩
  by_cases hf2 : p2.size ≤ 2147483647 ∧ (bs L2).size ≤ 2147483647
  rotate_left
  · rw [decide_eq_true hf1] at HF1
    rw [decide_eq_false hf2] at HF2
    generalize bs L1 = S1 at *
    generalize bs L2 = S2 at *
    clear hf1 hf2
    go_enter Tryd.func7, Tryd.ntmps7
    go_wp2_with (first
      | (go_at_call 19; with_reducible refine (HF1 _).out.mono ?_; rintro e w2 ⟨rfl, hg2⟩; obtain ⟨hG, k10, k11, k12, k20, k21, k22⟩ := (KW _ hg2).out)
      | (go_at_call 19; with_reducible refine (HF2 _).out.mono ?_; rintro e w3 ⟨rfl, hg3⟩))
    go_ret
    exact ⟨rfl, hG.trans hg3⟩
  rw [decide_eq_true hf1] at HF1
  rw [decide_eq_true hf2] at HF2
  rw [bs_size] at hf1 hf2
  have hsc := fun b w hx => serversC b 2 2 [⟨p1, L1, n1⟩, ⟨p2, L2, n2⟩] w rfl (by omega) (by omega) (by intro s hs; simp at hs; rcases hs with rfl | rfl <;> simp <;> omega) hx
  by_cases hok : srvOk [⟨p1, L1, n1⟩, ⟨p2, L2, n2⟩] = true
  rotate_left
  · rw [Bool.not_eq_true] at hok
    rw [hok] at hsc
    have HSC := fun b w hx => Lib.hid (hsc b w hx)
    have hsa := fun w T B hB => srvAt2 w T B hB ⟨p1, L1, n1⟩ ⟨p2, L2, n2⟩
    simp only at hsa
    clear hf1 hf2 hok hsc
    have HSA := fun w T B hB => Lib.hid (hsa w T B hB)
    generalize bs L1 = S1 at *
    generalize bs L2 = S2 at *
    clear hsa
    go_enter Tryd.func7, Tryd.ntmps7
    go_wp2_with (first
      | (go_at_call 19; with_reducible refine (HF1 _).out.mono ?_; rintro e w2 ⟨rfl, hg2⟩; obtain ⟨hG, k10, k11, k12, k20, k21, k22⟩ := (KW _ hg2).out)
      | (go_at_call 19; with_reducible refine (HF2 _).out.mono ?_; rintro e w3 ⟨rfl, hg3⟩; have k10 := hg3.cell k10; have k11 := hg3.cell k11; have k12 := hg3.cell k12; have k20 := hg3.cell k20; have k21 := hg3.cell k21; have k22 := hg3.cell k22)
      | (go_at_call 9; go_must (with_reducible refine (HSC _ _ (HSA _ _ _ rfl).out).out.mono ?_); rintro e w4 ⟨rfl, hg4⟩)
      | (go_at_call 21; go_must (with_reducible refine (HA _ (ht.gr (Gr.trans (Gr.alloc (Gr.trans hG hg3) _) hg4))).out.mono ?_); rintro e w5 ⟨rfl, hg5⟩))
    go_ret
    exact ⟨rfl, ((hG.trans hg3).alloc _).trans (hg4.trans hg5)⟩
  rw [hok] at hsc
  have hgood : Srv.good ⟨p1, L1, n1⟩ = true ∧ Srv.good ⟨p2, L2, n2⟩ = true := by
    unfold srvOk at hok
    simpa using hok
  obtain ⟨hg1, hg2⟩ := hgood
  simp only [Srv.good, Bool.and_eq_true] at hg1 hg2
  have hl1 := Srv.short_len hg1.1
  have hl2 := Srv.short_len hg2.1
  simp only at hl1 hl2
  have ha1 : ∀ b ∈ L1, b.toNat < 128 := fun b hb => by have := List.all_eq_true.1 hg1.2 b hb; simpa using this
  have ha2 : ∀ b ∈ L2, b.toNat < 128 := fun b hb => by have := List.all_eq_true.1 hg2.2 b hb; simpa using this
  have HSC := fun b w hx => Lib.hid (hsc b w hx)
  have hsa := fun w T B hB => srvAt2 w T B hB ⟨p1, L1, n1⟩ ⟨p2, L2, n2⟩
  simp only at hsa
  have hi21 := fun w => srvEqual p2 p1 L2 L1 n2 n1 (by omega) (by omega) ha2 ha1 w
  have hi11 := fun w => srvEqual p1 p1 L1 L1 n1 n1 (by omega) (by omega) ha1 ha1 w
  rw [srvEq_symm] at hi21
  rw [srvEq_refl] at hi11
  have HI12 := fun w => Lib.hid (srvEqual p1 p2 L1 L2 n1 n2 (by omega) (by omega) ha1 ha2 w)
  have HI21 := fun w => Lib.hid (hi21 w)
  have HI11 := fun w => Lib.hid (hi11 w)
  have HP12 := fun w => Lib.hid (specEqual p1 p2 L1 L2 n1 n2 (by omega) (by omega) w)
  clear hf1 hf2 hok hsc hg1 hg2 hl1 hl2 ha1 ha2 hi21 hi11
  have HSA := fun w T B hB => Lib.hid (hsa w T B hB)
  generalize bs L1 = S1 at *
  generalize bs L2 = S2 at *
  generalize srvEq L1 n1 L2 n2 = q at *
  clear hsa
  cases q
  all_goals
    go_enter Tryd.func7, Tryd.ntmps7
    go_wp2_with (first
      | (go_at_call 19; with_reducible refine (HF1 _).out.mono ?_; rintro e w2 ⟨rfl, hg2⟩; obtain ⟨hG, k10, k11, k12, k20, k21, k22⟩ := (KW _ hg2).out)
      | (go_at_call 19; with_reducible refine (HF2 _).out.mono ?_; rintro e w3 ⟨rfl, hg3⟩; have k10 := hg3.cell k10; have k11 := hg3.cell k11; have k12 := hg3.cell k12; have k20 := hg3.cell k20; have k21 := hg3.cell k21; have k22 := hg3.cell k22)
      | (go_at_call 9; go_must (with_reducible refine (HSC _ _ (HSA _ _ _ rfl).out).out.mono ?_); rintro e w4 ⟨rfl, hg4⟩))
    have HGW := Lib.hid (((hG.trans hg3).alloc _).trans hg4)
    have k10 := (Gr.trans ((Gr.refl w3).alloc _) hg4).cell k10
    have k11 := (Gr.trans ((Gr.refl w3).alloc _) hg4).cell k11
    have k12 := (Gr.trans ((Gr.refl w3).alloc _) hg4).cell k12
    have k20 := (Gr.trans ((Gr.refl w3).alloc _) hg4).cell k20
    have k21 := (Gr.trans ((Gr.refl w3).alloc _) hg4).cell k21
    have k22 := (Gr.trans ((Gr.refl w3).alloc _) hg4).cell k22
    clear hG hg2 hg3 hg4
    go_region_held3 (fun w' => w'.cell? ⟨H, 0, none⟩ = some (.string p1) ∧ w'.cell? ⟨H, 1, none⟩ = some (.string S1) ∧ w'.cell? ⟨H, 2, none⟩ = some (.int .i64 n1) ∧ w'.cell? ⟨H + 1, 0, none⟩ = some (.string p2) ∧ w'.cell? ⟨H + 1, 1, none⟩ = some (.string S2) ∧ w'.cell? ⟨H + 1, 2, none⟩ = some (.int .i64 n2)) (first | (with_reducible exact ⟨hG.cell k10, hG.cell k11, hG.cell k12, hG.cell k20, hG.cell k21, hG.cell k22⟩) | go_keep)
      ((first
        | (go_at_call 18; with_reducible refine (HI12 _).out.mono ?_; rintro e w5 ⟨rfl, hg5⟩; have hG : Gr w4 w5 := Gr.trans (by with_reducible first | exact hG | exact Gr.refl _ | exact (Gr.refl _).drew) hg5)
        | (go_at_call 18; with_reducible refine (HI21 _).out.mono ?_; rintro e w5 ⟨rfl, hg5⟩; have hG : Gr w4 w5 := Gr.trans (by with_reducible first | exact hG | exact Gr.refl _ | exact (Gr.refl _).drew) hg5)
        | (go_at_call 18; with_reducible refine (HI11 _).out.mono ?_; rintro e w5 ⟨rfl, hg5⟩; have hG : Gr w4 w5 := Gr.trans (by with_reducible first | exact hG | exact Gr.refl _ | exact (Gr.refl _).drew) hg5)
        | (go_at_call 13; with_reducible refine (HP12 _).out.mono ?_; rintro e w5 ⟨rfl, hg5⟩; have hG : Gr w4 w5 := Gr.trans (by with_reducible first | exact hG | exact Gr.refl _ | exact (Gr.refl _).drew) hg5)
        | (go_at_call 21; with_reducible refine (HA _ (ht.gr (HGW.out.trans hG))).out.mono ?_; rintro e w5 ⟨rfl, hg5⟩; have hG : Gr w4 w5 := Gr.trans (by with_reducible first | exact hG | exact Gr.refl _ | exact (Gr.refl _).drew) hg5)))
    all_goals (go_wp2; go_ret; exact ⟨rfl, HGW.out.trans hG⟩)
end Go.Proofs.YtkonfcgdokabaaaDoor
