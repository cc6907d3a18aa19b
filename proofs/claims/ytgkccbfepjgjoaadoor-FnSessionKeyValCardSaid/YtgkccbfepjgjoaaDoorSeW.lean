/- slices.Grow of nothing, slices.Concat of bytes, slices.Reverse of two bytes, spec.SessionPacked of a byte. -/
import Derived.Test.YtgkccbfepjgjoaaDoorSeT
import Derived.Test.YtgkccbfepjgjoaaDoorSeV
import Derived.Lib.AppendZeros
import Derived.Shelf.RegionOpenPlain
namespace Go.Proofs.YtgkccbfepjgjoaaDoor
open Go Go.RowKit

theorem wpList_append_make {w : World} {ops : Array Oper} {rest : List Oper} {o : Oper} {a : Act} {Q : Exit → Act → World → Prop} (hgd : o.guard = none) (s x : Operand)
    (ho : o.op = .call { callee := .builtin .append, args := #[s, x], argTypes := #[24, 3] }) (n : Nat) (hs : a.eval s = .slice none 0 0) (hx : a.eval x = .int .i64 n) (h0 : 0 < n) (hn : n ≤ 1000000000)
    (h : ∀ cap w', Own w.heap.size w' (.slice (some ⟨w.heap.size, 0, none⟩) 0 cap) [] → Gr w w' → n ≤ cap → cap ≤ maxLen → wpList Tryd.prog ops Q rest (a.put o.dst (.slice (some ⟨w.heap.size, 0, none⟩) n cap)) w') : wpList Tryd.prog ops Q (o :: rest) a w := by
  obtain ⟨i, hi, hz, hz1, hz2⟩ := info_parts Go.Proofs.YtgkccbfepjgjoaaDoor.u8.info
  have happ := fun ty => Lib.run_append_nil_zeros (P := Tryd.prog) w 24 3 ty 5 i (.int .u8 0) .i64 .i64 Tryd.underlying24 Tryd.underlying3 hi hz n h0 (by omega) (by omega) (by rw [hz2]; omega)
  refine wpList_plain hgd fun _ hK => ?_
  unfold Oper.wp execOp
  simp only [ho, resolve, invoke, builtin, Sem.run_bind, Sem.run_pure, Result.andThen_ok, List.map_toArray, List.map_cons, List.map_nil, hs, hx, happ]
  refine hK _ _ (h _ _ ⟨⟨rfl, .inr ⟨w.heap.size, _, _, rfl, Nat.le_refl _, heap_alloc_new _ _, Nat.zero_le _, grownCap_le_maxLen _ _ _ _ (by simp only [maxLen]; omega), ?_, rfl⟩⟩, fun _ h => by cases h⟩ ((Gr.refl w).drew.alloc _) (grownCap_ge w n 0 5) (grownCap_le_maxLen _ _ _ _ (by simp only [maxLen]; omega)))
  have := grownCap_ge w n 0 5
  simp [Builtin.zeroCells, Value.cells]
  omega

set_option maxRecDepth 100000 in
theorem grow0 (n : Nat) (w : World) (hn : n ≤ 1000000000) :
    Calls Tryd.prog 57 #[.slice none 0 0, .int .i64 n] w fun e w' => ∃ u, e = .returned u ∧ Own w.heap.size w' u [] ∧ Gr w w' := by
  by_cases h0 : n = 0
  · subst h0
    go_enter Tryd.func57, Tryd.ntmps57
    go_wp2
    go_ret
    exact ⟨_, rfl, Own.nil _ _, Gr.refl _⟩
  · have i0 : (0 : Int) < n := by omega
    have hn0 : 0 < n := by omega
    go_enter Tryd.func57, Tryd.ntmps57
    go_wp2_with (first | (at_builtin; go_must (refine wpList_append_make rfl _ _ rfl n rfl rfl hn0 hn ?_); intro cap W ho hg h1 h2))
    have h2 : cap ≤ 9223372036854775807 := by simp only [maxLen] at h2; omega
    go_wp2
    go_ret
    exact ⟨_, rfl, ho, hg⟩

set_option maxRecDepth 100000 in
theorem concat (v : Value) (l : List (List Int)) (w : World) (h : Rdd w v l) (hs : l.flatten.length ≤ 1000000000) :
    Calls Tryd.prog 28 #[v] w fun e w' => ∃ u, e = .returned u ∧ Own w.heap.size w' u l.flatten ∧ Gr w w' := by
  obtain ⟨p, c, rfl, hlc, hcm, hcells⟩ := h
  obtain ⟨n, hn⟩ : ∃ n, l.length = n := ⟨_, rfl⟩
  have hcm2 : c ≤ 9223372036854775807 := by simp only [maxLen] at hcm; omega
  have HN := Lib.hid hn
  have HC := Lib.hid hcells
  have HS := Lib.hid hs
  have hstep : ∀ k (hk : k < l.length), (l.take (k + 1)).flatten = (l.take k).flatten ++ l[k]'hk := fun k hk => by
    rw [List.take_succ_eq_append_getElem hk, List.flatten_append]
    simp only [List.flatten_cons, List.flatten_nil, List.append_nil]
  have hle : ∀ k, (l.take k).flatten.length ≤ l.flatten.length := fun k => by
    conv => rhs; rw [← List.take_append_drop k l]
    rw [List.flatten_append, List.length_append]; omega
  have HST := Lib.hid hstep
  have HLE := Lib.hid hle
  rw [hn] at hlc ⊢
  clear hn hcells hcm hstep hle hs
  go_enter Tryd.func28, Tryd.ntmps28
  go_wp2
  go_loop [11, 3] (fun i s => ∃ k : Nat, i = .int .i64 k ∧ k ≤ n ∧ s = .int .i64 ((l.take k).flatten.length : Nat)) (fun i _ => ((n : Int) - intOf i).toNat)
  case atStart => exact ⟨0, rfl, Nat.zero_le _, rfl⟩
  case round =>
    obtain ⟨k, rfl, hk, rfl⟩ := hrel
    by_cases e : k < n
    · obtain ⟨b, o, rfl, hc⟩ := HC.out (by rw [HN.out]; omega)
      have hkl : k < l.length := by rw [HN.out]; exact e
      obtain ⟨u, k1, k2⟩ := hc k hkl
      have hst := HST.out k hkl
      have h1 := HLE.out (k + 1)
      have h2 := HS.out
      rw [hst, List.length_append] at h1
      have hs2 : (l.take (k + 1)).flatten.length = (l.take k).flatten.length + (l[k]'hkl).length := by rw [hst, List.length_append]
      obtain ⟨pu, cu, rfl, _⟩ := k2
      generalize (l[k]'hkl).length = m at *
      obtain ⟨T, hT⟩ : ∃ T, (l.take k).flatten.length = T := ⟨_, rfl⟩
      rw [hT] at h1 hs2 ⊢
      have h3 : T + m ≤ 1000000000 := by omega
      have hw : IntKind.i64.wrap ((T : Int) + m) = (T : Int) + m := by rw [IntKind.wrap_i64]; omega
      have HS2 := Lib.hid hs2
      clear hc hst h1 h2 hT hs2
      go_wp2
      go_round
      case rel => exact ⟨k + 1, by go_num, by omega, by rw [HS2.out]; go_num⟩
      case measure => simp [intOf]; omega
    · obtain rfl : n = k := by omega
      rw [List.take_of_length_le (by rw [HN.out]; exact Nat.le_refl _)]
      have hS := HS.out
      obtain ⟨T, hT⟩ : ∃ T, l.flatten.length = T := ⟨_, rfl⟩
      rw [hT] at hS ⊢
      have HG := fun w => Lib.hid (grow0 T w hS)
      clear hT
      go_wp2_with (first | (go_at_call 57; go_must (refine (HG _).out.mono ?_); rintro e w1 ⟨u1, rfl, ho1, hg1⟩; have HO1 := Lib.hid ho1; have HG1 := Lib.hid hg1; clear ho1 hg1))
      go_loopw [27, 6] (fun i bv wr => ∃ k : Nat, i = .int .i64 k ∧ k ≤ n ∧ Own w.heap.size wr bv (l.take k).flatten ∧ Gr w wr) (fun i _ _ => n - (intOf i).toNat)
      case atStart => exact ⟨0, rfl, Nat.zero_le _, HO1.out, HG1.out⟩
      case round =>
        obtain ⟨k, rfl, hk, hown, hgr⟩ := hrel
        by_cases e : k < n
        · obtain ⟨b, o, rfl, hc⟩ := HC.out (by rw [HN.out]; omega)
          have hkl : k < l.length := by rw [HN.out]; exact e
          obtain ⟨u, k1, k2⟩ := hc k hkl
          have k1 := hgr.cell k1
          have HR := Lib.hid (k2.gr hgr)
          have hst := HST.out k hkl
          have h1 := HLE.out (k + 1)
          have h2 := HS.out
          rw [hst, List.length_append] at h1
          obtain ⟨pu, cu, rfl, _⟩ := k2
          have HL := Lib.hid (show (l.take k).flatten.length + (l[k]'hkl).length ≤ 140737488355328 by omega)
          have HOW := Lib.hid hown
          have HGR := Lib.hid hgr
          have HSS := Lib.hid hst
          generalize (l[k]'hkl).length = m at k1 HR
          clear hc hst h1 h2 hown hgr
          go_wp2_with (first | (at_builtin; go_must (refine wpList_append_gr Go.Proofs.YtgkccbfepjgjoaaDoor.u8 rfl _ _ rfl (w0 := w) HGR.out rfl HOW.out rfl HR.out HL.out ?_); intro v5 w5 ho5 hG5; have HO5 := Lib.hid ho5; clear ho5))
          go_roundw
          case rel => exact ⟨k + 1, by go_num, by omega, by rw [HSS.out]; exact HO5.out, hG5⟩
          case measure => simp [intOf]; omega
        · obtain rfl : n = k := by omega
          rw [List.take_of_length_le (by rw [HN.out]; exact Nat.le_refl _)] at hown
          go_wp2
          go_ret
          exact ⟨_, rfl, hown, hgr⟩

set_option maxRecDepth 100000 in
theorem reverse2 (w0 w : World) (g cap : Nat) (a b : Int) (h : OwnAt w g cap [a, b]) (h0 : Gr w0 w) (hg : w0.heap.size ≤ g) :
    Calls Tryd.prog 22 #[.slice (some ⟨g, 0, none⟩) 2 cap] w fun e w' => e = .returned (.tuple #[]) ∧ OwnAt w' g cap [b, a] ∧ Gr w0 w' := by
  have c0 : w.cell? ⟨g, 0, none⟩ = some (.int .u8 a) := h.cell 0 (by simp)
  have c1 : w.cell? ⟨g, 1, none⟩ = some (.int .u8 b) := h.cell 1 (by simp)
  have f0 := h.free 0
  have f1 := h.free 1
  have ha := h.byt a (by simp)
  have hb := h.byt b (by simp)
  have hc2 := h.2.1
  simp only [List.length_cons, List.length_nil] at hc2
  have hcm := h.2.2.1
  have hcm2 : cap ≤ 9223372036854775807 := by simp only [maxLen] at hcm; omega
  have H1 := Lib.hid ((h.drew.setCell 0 (by simp) b hb).setCell 1 (by simp) a ha)
  have H2 := Lib.hid ((h0.drew.setCell (p := ⟨g, 0, none⟩) hg (.int .u8 b)).setCell (p := ⟨g, 1, none⟩) hg (.int .u8 a))
  clear h ha hb hcm hg h0
  have mixed : Tryd.prog.follows .mixedOrders = true := by kernel_rfl
  go_enter Tryd.func22, Tryd.ntmps22
  go_wp2
  refine wp_loop_rounds 2 ?_
  rw [rounds_succ]
  go_wp2_with fail
  go_region_o
  go_wp2
  rw [rounds_succ]
  go_wp2
  go_end0
  exact ⟨rfl, H1.out, H2.out⟩
end Go.Proofs.YtgkccbfepjgjoaaDoor
