/- slices.Concat of rows of structs. Printed by gen_co.py. -/
import Derived.Test.YtgkccbfepjgjoaaDoorSeOs
import Derived.Test.YtgkccbfepjgjoaaDoorSeMj
namespace Go.Proofs.YtgkccbfepjgjoaaDoor
open Go Go.RowKit

/-- Rows of entries of sz cells each. -/
def RddR (w : World) (v : Value) (sz : Nat) (L : List (List (List Value))) : Prop :=
  ∃ p c, v = .slice p L.length c ∧ L.length ≤ c ∧ c ≤ maxLen ∧ (0 < L.length → ∃ b o, p = some ⟨b, o, none⟩ ∧ ∀ i (hi : i < L.length), ∃ u, w.cell? ⟨b, o + i, none⟩ = some u ∧ SrcR w u L[i] ∧ ∀ c ∈ L[i], c.length = sz ∧ ∀ u ∈ c, u.oneCell' = true)
theorem RddR.two {W : World} {H : Nat} {a b : Value} {sz : Nat} {x y : List (List Value)} {T : TypeId} {fr : Nat × Nat} (h : W.heap[H]? = some (.cells #[a, b] T fr)) (ha : SrcR W a x) (hb : SrcR W b y)
    (ka : ∀ c ∈ x, c.length = sz ∧ ∀ u ∈ c, u.oneCell' = true) (kb : ∀ c ∈ y, c.length = sz ∧ ∀ u ∈ c, u.oneCell' = true) : RddR W (.slice (some ⟨H, 0, none⟩) 2 2) sz [x, y] := by
  refine ⟨_, 2, rfl, Nat.le_refl _, by simp [maxLen], fun _ => ⟨H, 0, rfl, fun i hi => ?_⟩⟩
  match i, hi with
  | 0, _ => exact ⟨a, (blk_cell h 0).trans rfl, ha, ka⟩
  | 1, _ => exact ⟨b, (blk_cell h 1).trans rfl, hb, kb⟩
theorem SrcR.shape {w : World} {u : Value} {ds : List (List Value)} (h : SrcR w u ds) : ∃ p c, u = .slice p ds.length c := by
  rcases h with ⟨rfl, rfl⟩ | ⟨A, c, rfl, _⟩
  · exact ⟨_, _, rfl⟩
  · exact ⟨_, _, rfl⟩
theorem zeroCells_len (cs : Array Value) (k : Nat) : (Builtin.zeroCells cs k).size = k * cs.size := by
  simp [Builtin.zeroCells]

theorem spInfo : (Tryd.prog.info? 48).map (fun i => (i.zero, i.size, i.bytes)) = some (some (.agg #[.int .u8 0, .int .u8 0, .int .u64 0, .bool false, .bool false, .int .u8 0, .slice none 0 0, .slice none 0 0]), 8, 72) := by kernel_rfl

theorem make_sp {w : World} {ops : Array Oper} {rest : List Oper} {o : Oper} {a : Act} {Q : Exit → Act → World → Prop} (hgd : o.guard = none) (s x : Operand)
    (ho : o.op = .call { callee := .builtin .append, args := #[s, x], argTypes := #[65, 3] }) (n : Nat) (hs : a.eval s = .slice none 0 0) (hx : a.eval x = .int .i64 n) (h0 : 0 < n) (hn : n ≤ 1000000)
    (h : ∀ cap w', OwnR 48 8 w.heap.size w' (.slice (some ⟨w.heap.size, 0, none⟩) 0 cap) [] → Gr w w' → n ≤ cap → cap ≤ maxLen → wpList Tryd.prog ops Q rest (a.put o.dst (.slice (some ⟨w.heap.size, 0, none⟩) n cap)) w') : wpList Tryd.prog ops Q (o :: rest) a w := by
  obtain ⟨i, hi, hz, hz1, hz2⟩ := info_parts spInfo
  have happ := fun ty => Lib.run_append_nil_zeros (P := Tryd.prog) w 65 3 ty 48 i _ .i64 .i64 Tryd.underlying65 Tryd.underlying3 hi hz n h0 (by omega) (by omega) (by rw [hz2]; omega)
  refine wpList_plain hgd fun _ hK => ?_
  unfold Oper.wp execOp
  simp only [ho, resolve, invoke, builtin, Sem.run_bind, Sem.run_pure, Result.andThen_ok, List.map_toArray, List.map_cons, List.map_nil, hs, hx, happ]
  refine hK _ _ (h _ _ ⟨fun c h => by simp at h, rfl, .inr ⟨w.heap.size, _, _, rfl, Nat.le_refl _, heap_alloc_new _ _, Nat.zero_le _, grownCap_le_maxLen _ _ _ _ (by simp only [maxLen]; omega), ?_, by simp⟩⟩ ((Gr.refl w).drew.alloc _) (grownCap_ge w n 0 48) (grownCap_le_maxLen _ _ _ _ (by simp only [maxLen]; omega)))
  have := grownCap_ge w n 0 48
  rw [Array.size_append, zeroCells_len, zeroCells_len]
  show n * 8 + (grownCap w n 0 48 - n) * 8 = grownCap w n 0 48 * 8
  omega

set_option maxRecDepth 100000 in
theorem grow_sp (n : Nat) (w : World) (hn : n ≤ 1000000) :
    Calls Tryd.prog 61 #[.slice none 0 0, .int .i64 n] w fun e w' => ∃ u, e = .returned u ∧ OwnR 48 8 w.heap.size w' u [] ∧ Gr w w' := by
  by_cases h0 : n = 0
  · subst h0
    go_enter Tryd.func61, Tryd.ntmps61
    go_wp2
    go_ret
    exact ⟨_, rfl, OwnR.nil _ _ _ _, Gr.refl _⟩
  · have i0 : (0 : Int) < n := by omega
    have hn0 : 0 < n := by omega
    go_enter Tryd.func61, Tryd.ntmps61
    go_wp2_with (first | (at_builtin; go_must (refine make_sp rfl _ _ rfl n rfl rfl hn0 hn ?_); intro cap W ho hg h1 h2))
    have h2 : cap ≤ 9223372036854775807 := by simp only [maxLen] at h2; omega
    go_wp2
    go_ret
    exact ⟨_, rfl, ho, hg⟩

set_option maxRecDepth 100000 in
theorem concat_sp (v : Value) (l : List (List (List Value))) (w : World) (h : RddR w v 8 l) (hs : l.flatten.length ≤ 1000000) :
    Calls Tryd.prog 34 #[v] w fun e w' => ∃ u, e = .returned u ∧ OwnR 48 8 w.heap.size w' u l.flatten ∧ Gr w w' := by
  obtain ⟨p, c, rfl, hlc, hcm, hcells⟩ := h
  obtain ⟨n, hn⟩ : ∃ n, l.length = n := ⟨_, rfl⟩
  have hcm2 : c ≤ 9223372036854775807 := by simp only [maxLen] at hcm; omega
  have HN := Lib.hid hn
  have HC := Lib.hid hcells
  have HS := Lib.hid hs
  have hstep : ∀ k (hk : k < l.length), (l.take (k + 1)).flatten = (l.take k).flatten ++ l[k]'hk := fun k hk => by
    rw [List.take_succ_eq_append_getElem hk, List.flatten_append]
    simp only [List.flatten_cons, List.flatten_nil, List.append_nil]
  have hle : ∀ k, (l.take k).flatten.length ≤ l.flatten.length := fun k => by
    conv => rhs; rw [← List.take_append_drop k l]
    rw [List.flatten_append, List.length_append]; omega
  have HST := Lib.hid hstep
  have HLE := Lib.hid hle
  rw [hn] at hlc ⊢
  clear hn hcells hcm hstep hle hs
  go_enter Tryd.func34, Tryd.ntmps34
  go_wp2
  go_loop [11, 3] (fun i s => ∃ k : Nat, i = .int .i64 k ∧ k ≤ n ∧ s = .int .i64 ((l.take k).flatten.length : Nat)) (fun i _ => ((n : Int) - intOf i).toNat)
  case atStart => exact ⟨0, rfl, Nat.zero_le _, rfl⟩
  case round =>
    obtain ⟨k, rfl, hk, rfl⟩ := hrel
    by_cases e : k < n
    · obtain ⟨b, o, rfl, hc⟩ := HC.out (by rw [HN.out]; omega)
      have hkl : k < l.length := by rw [HN.out]; exact e
      obtain ⟨u, k1, k2, _⟩ := hc k hkl
      have hst := HST.out k hkl
      have h1 := HLE.out (k + 1)
      have h2 := HS.out
      rw [hst, List.length_append] at h1
      have hs2 : (l.take (k + 1)).flatten.length = (l.take k).flatten.length + (l[k]'hkl).length := by rw [hst, List.length_append]
      obtain ⟨pu, cu, rfl⟩ := k2.shape
      clear k2 hc
      generalize (l[k]'hkl).length = m at *
      obtain ⟨T, hT⟩ : ∃ T, (l.take k).flatten.length = T := ⟨_, rfl⟩
      rw [hT] at h1 hs2 ⊢
      have h3 : T + m ≤ 1000000 := by omega
      have hw : IntKind.i64.wrap ((T : Int) + m) = (T : Int) + m := by rw [IntKind.wrap_i64]; omega
      have HS2 := Lib.hid hs2
      clear hst h1 h2 hT hs2
      go_wp2
      go_round
      case rel => exact ⟨k + 1, by go_num, by omega, by rw [HS2.out]; go_num⟩
      case measure => simp [intOf]; omega
    · obtain rfl : n = k := by omega
      rw [List.take_of_length_le (by rw [HN.out]; exact Nat.le_refl _)]
      have hS := HS.out
      obtain ⟨T, hT⟩ : ∃ T, l.flatten.length = T := ⟨_, rfl⟩
      rw [hT] at hS ⊢
      have HG := fun w => Lib.hid (grow_sp T w hS)
      clear hT
      go_wp2_with (first | (go_at_call 61; go_must (refine (HG _).out.mono ?_); rintro e w1 ⟨u1, rfl, ho1, hg1⟩; have HO1 := Lib.hid ho1; have HG1 := Lib.hid hg1; clear ho1 hg1))
      go_loopw [27, 6] (fun i bv wr => ∃ k : Nat, i = .int .i64 k ∧ k ≤ n ∧ OwnR 48 8 w.heap.size wr bv (l.take k).flatten ∧ Gr w wr) (fun i _ _ => n - (intOf i).toNat)
      case atStart => exact ⟨0, rfl, Nat.zero_le _, HO1.out, HG1.out⟩
      case round =>
        obtain ⟨k, rfl, hk, hown, hgr⟩ := hrel
        by_cases e : k < n
        · obtain ⟨b, o, rfl, hc⟩ := HC.out (by rw [HN.out]; omega)
          have hkl : k < l.length := by rw [HN.out]; exact e
          obtain ⟨u, k1, k2, k3⟩ := hc k hkl
          have k1 := hgr.cell k1
          have HR := Lib.hid (k2.gr hgr)
          have HK := Lib.hid k3
          have hst := HST.out k hkl
          have h1 := HLE.out (k + 1)
          have h2 := HS.out
          rw [hst, List.length_append] at h1
          have HL := Lib.hid (show (l.take k).flatten.length + (l[k]'hkl).length ≤ 1000000 by omega)
          have HOW := Lib.hid hown
          have HGR := Lib.hid hgr
          have HSS := Lib.hid hst
          clear hc hst h1 h2 hown hgr k2 k3
          go_wp2_with (first | (at_builtin; go_must (refine wpList_append_rows rfl _ _ rfl Tryd.underlying65 spInfo rfl (by decide) (by decide) rfl HOW.out _ HK.out _ rfl HR.out HL.out HGR.out.size ?_); intro v5 w5 ho5 hg5; have HO5 := Lib.hid ho5; have HG5 := Lib.hid (Below.trans HGR.out (HOW.out.below hg5 HGR.out.size)); clear ho5 hg5))
          go_roundw
          case rel => exact ⟨k + 1, by go_num, by omega, by rw [HSS.out]; exact HO5.out, HG5.out⟩
          case measure => simp [intOf]; omega
        · obtain rfl : n = k := by omega
          rw [List.take_of_length_le (by rw [HN.out]; exact Nat.le_refl _)] at hown
          go_wp2
          go_ret
          exact ⟨_, rfl, hown, hgr⟩

theorem make_got {w : World} {ops : Array Oper} {rest : List Oper} {o : Oper} {a : Act} {Q : Exit → Act → World → Prop} (hgd : o.guard = none) (s x : Operand)
    (ho : o.op = .call { callee := .builtin .append, args := #[s, x], argTypes := #[23, 3] }) (n : Nat) (hs : a.eval s = .slice none 0 0) (hx : a.eval x = .int .i64 n) (h0 : 0 < n) (hn : n ≤ 1000000)
    (h : ∀ cap w', OwnR 31 5 w.heap.size w' (.slice (some ⟨w.heap.size, 0, none⟩) 0 cap) [] → Gr w w' → n ≤ cap → cap ≤ maxLen → wpList Tryd.prog ops Q rest (a.put o.dst (.slice (some ⟨w.heap.size, 0, none⟩) n cap)) w') : wpList Tryd.prog ops Q (o :: rest) a w := by
  obtain ⟨i, hi, hz, hz1, hz2⟩ := info_parts gotInfo
  have happ := fun ty => Lib.run_append_nil_zeros (P := Tryd.prog) w 23 3 ty 31 i _ .i64 .i64 Tryd.underlying23 Tryd.underlying3 hi hz n h0 (by omega) (by omega) (by rw [hz2]; omega)
  refine wpList_plain hgd fun _ hK => ?_
  unfold Oper.wp execOp
  simp only [ho, resolve, invoke, builtin, Sem.run_bind, Sem.run_pure, Result.andThen_ok, List.map_toArray, List.map_cons, List.map_nil, hs, hx, happ]
  refine hK _ _ (h _ _ ⟨fun c h => by simp at h, rfl, .inr ⟨w.heap.size, _, _, rfl, Nat.le_refl _, heap_alloc_new _ _, Nat.zero_le _, grownCap_le_maxLen _ _ _ _ (by simp only [maxLen]; omega), ?_, by simp⟩⟩ ((Gr.refl w).drew.alloc _) (grownCap_ge w n 0 31) (grownCap_le_maxLen _ _ _ _ (by simp only [maxLen]; omega)))
  have := grownCap_ge w n 0 31
  rw [Array.size_append, zeroCells_len, zeroCells_len]
  show n * 5 + (grownCap w n 0 31 - n) * 5 = grownCap w n 0 31 * 5
  omega

set_option maxRecDepth 100000 in
theorem grow_got (n : Nat) (w : World) (hn : n ≤ 1000000) :
    Calls Tryd.prog 62 #[.slice none 0 0, .int .i64 n] w fun e w' => ∃ u, e = .returned u ∧ OwnR 31 5 w.heap.size w' u [] ∧ Gr w w' := by
  by_cases h0 : n = 0
  · subst h0
    go_enter Tryd.func62, Tryd.ntmps62
    go_wp2
    go_ret
    exact ⟨_, rfl, OwnR.nil _ _ _ _, Gr.refl _⟩
  · have i0 : (0 : Int) < n := by omega
    have hn0 : 0 < n := by omega
    go_enter Tryd.func62, Tryd.ntmps62
    go_wp2_with (first | (at_builtin; go_must (refine make_got rfl _ _ rfl n rfl rfl hn0 hn ?_); intro cap W ho hg h1 h2))
    have h2 : cap ≤ 9223372036854775807 := by simp only [maxLen] at h2; omega
    go_wp2
    go_ret
    exact ⟨_, rfl, ho, hg⟩

set_option maxRecDepth 100000 in
theorem concat_got (v : Value) (l : List (List (List Value))) (w : World) (h : RddR w v 5 l) (hs : l.flatten.length ≤ 1000000) :
    Calls Tryd.prog 36 #[v] w fun e w' => ∃ u, e = .returned u ∧ OwnR 31 5 w.heap.size w' u l.flatten ∧ Gr w w' := by
  obtain ⟨p, c, rfl, hlc, hcm, hcells⟩ := h
  obtain ⟨n, hn⟩ : ∃ n, l.length = n := ⟨_, rfl⟩
  have hcm2 : c ≤ 9223372036854775807 := by simp only [maxLen] at hcm; omega
  have HN := Lib.hid hn
  have HC := Lib.hid hcells
  have HS := Lib.hid hs
  have hstep : ∀ k (hk : k < l.length), (l.take (k + 1)).flatten = (l.take k).flatten ++ l[k]'hk := fun k hk => by
    rw [List.take_succ_eq_append_getElem hk, List.flatten_append]
    simp only [List.flatten_cons, List.flatten_nil, List.append_nil]
  have hle : ∀ k, (l.take k).flatten.length ≤ l.flatten.length := fun k => by
    conv => rhs; rw [← List.take_append_drop k l]
    rw [List.flatten_append, List.length_append]; omega
  have HST := Lib.hid hstep
  have HLE := Lib.hid hle
  rw [hn] at hlc ⊢
  clear hn hcells hcm hstep hle hs
  go_enter Tryd.func36, Tryd.ntmps36
  go_wp2
  go_loop [11, 3] (fun i s => ∃ k : Nat, i = .int .i64 k ∧ k ≤ n ∧ s = .int .i64 ((l.take k).flatten.length : Nat)) (fun i _ => ((n : Int) - intOf i).toNat)
  case atStart => exact ⟨0, rfl, Nat.zero_le _, rfl⟩
  case round =>
    obtain ⟨k, rfl, hk, rfl⟩ := hrel
    by_cases e : k < n
    · obtain ⟨b, o, rfl, hc⟩ := HC.out (by rw [HN.out]; omega)
      have hkl : k < l.length := by rw [HN.out]; exact e
      obtain ⟨u, k1, k2, _⟩ := hc k hkl
      have hst := HST.out k hkl
      have h1 := HLE.out (k + 1)
      have h2 := HS.out
      rw [hst, List.length_append] at h1
      have hs2 : (l.take (k + 1)).flatten.length = (l.take k).flatten.length + (l[k]'hkl).length := by rw [hst, List.length_append]
      obtain ⟨pu, cu, rfl⟩ := k2.shape
      clear k2 hc
      generalize (l[k]'hkl).length = m at *
      obtain ⟨T, hT⟩ : ∃ T, (l.take k).flatten.length = T := ⟨_, rfl⟩
      rw [hT] at h1 hs2 ⊢
      have h3 : T + m ≤ 1000000 := by omega
      have hw : IntKind.i64.wrap ((T : Int) + m) = (T : Int) + m := by rw [IntKind.wrap_i64]; omega
      have HS2 := Lib.hid hs2
      clear hst h1 h2 hT hs2
      go_wp2
      go_round
      case rel => exact ⟨k + 1, by go_num, by omega, by rw [HS2.out]; go_num⟩
      case measure => simp [intOf]; omega
    · obtain rfl : n = k := by omega
      rw [List.take_of_length_le (by rw [HN.out]; exact Nat.le_refl _)]
      have hS := HS.out
      obtain ⟨T, hT⟩ : ∃ T, l.flatten.length = T := ⟨_, rfl⟩
      rw [hT] at hS ⊢
      have HG := fun w => Lib.hid (grow_got T w hS)
      clear hT
      go_wp2_with (first | (go_at_call 62; go_must (refine (HG _).out.mono ?_); rintro e w1 ⟨u1, rfl, ho1, hg1⟩; have HO1 := Lib.hid ho1; have HG1 := Lib.hid hg1; clear ho1 hg1))
      go_loopw [27, 6] (fun i bv wr => ∃ k : Nat, i = .int .i64 k ∧ k ≤ n ∧ OwnR 31 5 w.heap.size wr bv (l.take k).flatten ∧ Gr w wr) (fun i _ _ => n - (intOf i).toNat)
      case atStart => exact ⟨0, rfl, Nat.zero_le _, HO1.out, HG1.out⟩
      case round =>
        obtain ⟨k, rfl, hk, hown, hgr⟩ := hrel
        by_cases e : k < n
        · obtain ⟨b, o, rfl, hc⟩ := HC.out (by rw [HN.out]; omega)
          have hkl : k < l.length := by rw [HN.out]; exact e
          obtain ⟨u, k1, k2, k3⟩ := hc k hkl
          have k1 := hgr.cell k1
          have HR := Lib.hid (k2.gr hgr)
          have HK := Lib.hid k3
          have hst := HST.out k hkl
          have h1 := HLE.out (k + 1)
          have h2 := HS.out
          rw [hst, List.length_append] at h1
          have HL := Lib.hid (show (l.take k).flatten.length + (l[k]'hkl).length ≤ 1000000 by omega)
          have HOW := Lib.hid hown
          have HGR := Lib.hid hgr
          have HSS := Lib.hid hst
          clear hc hst h1 h2 hown hgr k2 k3
          go_wp2_with (first | (at_builtin; go_must (refine wpList_append_rows rfl _ _ rfl Tryd.underlying23 gotInfo rfl (by decide) (by decide) rfl HOW.out _ HK.out _ rfl HR.out HL.out HGR.out.size ?_); intro v5 w5 ho5 hg5; have HO5 := Lib.hid ho5; have HG5 := Lib.hid (Below.trans HGR.out (HOW.out.below hg5 HGR.out.size)); clear ho5 hg5))
          go_roundw
          case rel => exact ⟨k + 1, by go_num, by omega, by rw [HSS.out]; exact HO5.out, HG5.out⟩
          case measure => simp [intOf]; omega
        · obtain rfl : n = k := by omega
          rw [List.take_of_length_le (by rw [HN.out]; exact Nat.le_refl _)] at hown
          go_wp2
          go_ret
          exact ⟨_, rfl, hown, hgr⟩
end Go.Proofs.YtgkccbfepjgjoaaDoor
