/- impl.ConnectBytes, and the reference's reader at any place. -/
import Derived.Test.YtoaajnhbcekglaaDoorPkCo
import Derived.Test.YtoaajnhbcekglaaDoorPkM
import Derived.Test.YtoaajnhbcekglaaDoorPkOpen
namespace Go.Proofs.YtoaajnhbcekglaaDoor
open Go Go.RowKit

theorem str_back (a : Addr) (c : Nat) (s : ByteArray) (w : World) (h : Rd w (.slice (some a) s.size c) (nums s)) :
    (convert 30 9 (.slice (some a) s.size c)).run Tryd.prog w = .ok (.string s) w := by
  have hl : s.data.toList.length = s.size := by rw [Array.length_toList]; rfl
  have e : (⟨s.data.toList.toArray⟩ : ByteArray) = s := by cases s; simp
  have := run_convert_bytes_back (P := Tryd.prog) w 30 9 5 a c s.data.toList Tryd.underlying30 Tryd.underlying5 Tryd.underlying9 fun j hj => by
    obtain ⟨p, c', h1, _, _, _, h2, _⟩ := h
    injection h1 with h1 h3
    subst h1
    rw [nums_length] at h2
    obtain ⟨b, o, e1, hc⟩ := h2 (by omega)
    injection e1 with e1
    subst e1
    rw [Lib.addr_add, hc j (by omega)]
    have hj2 : j < s.data.size := by simpa using hj
    simp [nums, List.getD_eq_getElem?_getD]
    rw [Array.getElem?_eq_getElem hj2]
    rfl
  rw [hl, e] at this
  exact this

def RetCq (w : World) (q : Nat) (s : ByteArray) (e : Ending) (w' : World) : Prop := ∃ v Z, e = .returned v ∧ (∀ w0, Gr w0 w → w0.heap.size ≤ q → Own w0.heap.size w' v (Z ++ if s.size ≤ 230 then nums s else []) ∧ Gr w0 w') ∧ Z.length = 70 ∧ Z.getD 24 0 = (s.size : Int) / 256 % 256 ∧ Z.getD 25 0 = (s.size : Int) % 256
def RetCi (w : World) (s : ByteArray) (e : Ending) (w' : World) : Prop := ∃ v Z, e = .returned v ∧ Own w.heap.size w' v (Z ++ if s.size ≤ 230 then nums s else []) ∧ Gr w w' ∧ Z.length = 70 ∧ Z.getD 24 0 = (s.size : Int) / 256 % 256 ∧ Z.getD 25 0 = (s.size : Int) % 256

theorem net_ConnectBytes (q : Nat) (cx : Ctx) (hcx : cx.ok) (s : ByteArray) (w : World) (hs : s.size ≤ 2000) (hq : w.heap[q]? = some (.cells (cx.cells s) 93 (0, 0))) :
    Calls Tryd.prog 40 #[.pointer (some ⟨q, 0, none⟩)] w (RetCq w q s) := by
  obtain ⟨v0, v1, l0, l1, o0, o1, r0, r1, _, _, _, _, _, _, s0, s1, t0, t1⟩ := hcx
  have KB := fun k B cp L w hL hP hC hR => Lib.hid (cn_bytes k q B s.size cp L cx.ver cx.lo cx.opt cx.our cx.sdu cx.tdu cx.done (nums s) w hL (nums_length s) hs hP hC hR (by omega) (by omega) (by omega) (by omega) (by omega) (by omega))
  go_enter Tryd.func40, Tryd.ntmps40
  go_wp2_with (first
    | (go_at_call 50; go_must (refine (newConnect q cx s _ hs hq).mono ?_); rintro e w1 ⟨k, B, cp, L, rfl, hL, hP, hC, hR, hF⟩)
    | (go_at_call 51; go_must (refine (KB k B cp L _ hL hP hC hR).out.mono ?_); rintro e w2 ⟨v, Z, rfl, ho, hZ, ha, hb, hg2⟩))
  go_ret
  rw [nums_length] at ho ha hb
  exact ⟨v, Z, rfl, fun w0 h0 hg => ⟨ho.mono (hF w0 h0 hg).size, (hF w0 h0 hg).trans hg2⟩, hZ, ha, hb⟩

theorem impl_ConnectBytes (c : Ctx) (hc : c.ok) (s : ByteArray) (w : World) (hs : s.size ≤ 2000) :
    Calls Tryd.prog 25 #[c.val, .string s] w (RetCi w s) := by
  have HC := fun w => Lib.hid (contextOf c w)
  have HN := fun q w hq => Lib.hid (net_ConnectBytes q c hc s w hs hq)
  unfold Ctx.val at HC ⊢
  go_enter Tryd.func25, Tryd.ntmps25
  go_wp2_with (first
    | (go_at_call 28; go_must (refine (HC _).out.mono ?_); rintro e w1 ⟨q, rfl, hq1, hq, hg1⟩)
    | (go_at_call 39; go_must (refine (connectData q c _ s _ hq).mono ?_); rintro e w2 ⟨rfl, hq2, hF2⟩)
    | (go_at_call 40; go_must (refine (HN q _ hq2).out.mono ?_); rintro e w3 ⟨v, Z, rfl, hF3, hZ, ha, hb⟩))
  go_ret
  have hw1 : Gr w w1 := Gr.trans ((Gr.refl w).alloc _) hg1
  have hqw : w.heap.size ≤ q := by simp at hq1; omega
  have hw2 := hF2 w hw1 hqw
  obtain ⟨ho, hg⟩ := hF3 w hw2 hqw
  exact ⟨v, Z, rfl, ho, hg, hZ, ha, hb⟩

set_option maxRecDepth 100000 in
theorem packetGet2At (b o n c at' : Nat) (xs : List Int) (w : World) (h : RdAt w b o xs) (hn : xs.length = n) (h2 : at' + 2 ≤ n) (hc : n ≤ c) (hm : c ≤ maxLen) :
    Calls Tryd.prog 26 #[.slice (some ⟨b, o, none⟩) n c, .int .i64 at', .int .i64 2] w fun e w' => e = .returned (.int .u64 (nat2 (xs.drop at'))) ∧ w = w' := by
  have c0 := h.cell at' (by omega)
  have c1 := h.cell (at' + 1) (by omega)
  rw [← Nat.add_assoc] at c1
  have b0 := byt_getD h.byt at'
  have b1 := byt_getD h.byt (at' + 1)
  have hne : ¬ (c = at') := by omega
  have hcm : c ≤ 9223372036854775807 := by simp only [maxLen] at hm; omega
  have e2 : nat2 (xs.drop at') = xs.getD at' 0 * 256 + xs.getD (at' + 1) 0 := by simp [nat2, List.getD_eq_getElem?_getD]
  rw [e2]
  clear e2 hm
  generalize xs.getD at' 0 = x0 at *
  generalize xs.getD (at' + 1) 0 = x1 at *
  obtain ⟨b00, b01⟩ := b0
  obtain ⟨b10, b11⟩ := b1
  have i2 : (at' : Int) + 2 ≤ (c : Nat) := by omega
  have HN := Lib.hid hn
  clear hn h
  go_enter Tryd.func26, Tryd.ntmps26
  go_wp2
  refine wp_loop_rounds 3 ?_
  rw [rounds_succ]
  go_wp2
  rw [rounds_succ]
  go_wp2
  rw [rounds_succ]
  go_wp2
  go_ret
  refine ⟨?_, rfl⟩
  show Ending.returned (.int .u64 (bits .or .u64 (IntKind.u64.wrap (bits .or .u64 0 x0 * 256)) x1)) = _
  rw [or_zero x0 b00 b01, or_step x0 x1 b00 (by omega) b10 b11]
end Go.Proofs.YtoaajnhbcekglaaDoor
