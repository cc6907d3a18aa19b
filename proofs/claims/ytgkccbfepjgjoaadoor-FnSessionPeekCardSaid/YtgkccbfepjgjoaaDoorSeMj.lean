/- Several texts in one (merge.py): SeW, SePts. -/
import Derived.Test.YtgkccbfepjgjoaaDoorSeT
import Derived.Test.YtgkccbfepjgjoaaDoorSeV
import Derived.Lib.AppendZeros
import Derived.Shelf.RegionOpenPlain
/- slices.Grow of nothing, slices.Concat of bytes, slices.Reverse of two bytes, spec.SessionPacked of a byte. -/
namespace Go.Proofs.YtgkccbfepjgjoaaDoor
open Go Go.RowKit

theorem wpList_append_make {w : World} {ops : Array Oper} {rest : List Oper} {o : Oper} {a : Act} {Q : Exit → Act → World → Prop} (hgd : o.guard = none) (s x : Operand)
    (ho : o.op = .call { callee := .builtin .append, args := #[s, x], argTypes := #[24, 3] }) (n : Nat) (hs : a.eval s = .slice none 0 0) (hx : a.eval x = .int .i64 n) (h0 : 0 < n) (hn : n ≤ 1000000000)
    (h : ∀ cap w', Own w.heap.size w' (.slice (some ⟨w.heap.size, 0, none⟩) 0 cap) [] → Gr w w' → n ≤ cap → cap ≤ maxLen → wpList Tryd.prog ops Q rest (a.put o.dst (.slice (some ⟨w.heap.size, 0, none⟩) n cap)) w') : wpList Tryd.prog ops Q (o :: rest) a w := by
  obtain ⟨i, hi, hz, hz1, hz2⟩ := info_parts Go.Proofs.YtgkccbfepjgjoaaDoor.u8.info
  have happ := fun ty => Lib.run_append_nil_zeros (P := Tryd.prog) w 24 3 ty 5 i (.int .u8 0) .i64 .i64 Tryd.underlying24 Tryd.underlying3 hi hz n h0 (by omega) (by omega) (by rw [hz2]; omega)
  refine wpList_plain hgd fun _ hK => ?_
  unfold Oper.wp execOp
  simp only [ho, resolve, invoke, builtin, Sem.run_bind, Sem.run_pure, Result.andThen_ok, List.map_toArray, List.map_cons, List.map_nil, hs, hx, happ]
  refine hK _ _ (h _ _ ⟨⟨rfl, .inr ⟨w.heap.size, _, _, rfl, Nat.le_refl _, heap_alloc_new _ _, Nat.zero_le _, grownCap_le_maxLen _ _ _ _ (by simp only [maxLen]; omega), ?_, rfl⟩⟩, fun _ h => by cases h⟩ ((Gr.refl w).drew.alloc _) (grownCap_ge w n 0 5) (grownCap_le_maxLen _ _ _ _ (by simp only [maxLen]; omega)))
  have := grownCap_ge w n 0 5
  simp [Builtin.zeroCells, Value.cells]
  omega

set_option maxRecDepth 100000 in
theorem grow0 (n : Nat) (w : World) (hn : n ≤ 1000000000) :
    Calls Tryd.prog 57 #[.slice none 0 0, .int .i64 n] w fun e w' => ∃ u, e = .returned u ∧ Own w.heap.size w' u [] ∧ Gr w w' := by
  by_cases h0 : n = 0
  · subst h0
    go_enter Tryd.func57, Tryd.ntmps57
    go_wp2
    go_ret
    exact ⟨_, rfl, Own.nil _ _, Gr.refl _⟩
  · have i0 : (0 : Int) < n := by omega
    have hn0 : 0 < n := by omega
    go_enter Tryd.func57, Tryd.ntmps57
    go_wp2_with (first | (at_builtin; go_must (refine wpList_append_make rfl _ _ rfl n rfl rfl hn0 hn ?_); intro cap W ho hg h1 h2))
    have h2 : cap ≤ 9223372036854775807 := by simp only [maxLen] at h2; omega
    go_wp2
    go_ret
    exact ⟨_, rfl, ho, hg⟩

set_option maxRecDepth 100000 in
theorem concat (v : Value) (l : List (List Int)) (w : World) (h : Rdd w v l) (hs : l.flatten.length ≤ 1000000000) :
    Calls Tryd.prog 28 #[v] w fun e w' => ∃ u, e = .returned u ∧ Own w.heap.size w' u l.flatten ∧ Gr w w' := by
  obtain ⟨p, c, rfl, hlc, hcm, hcells⟩ := h
  obtain ⟨n, hn⟩ : ∃ n, l.length = n := ⟨_, rfl⟩
  have hcm2 : c ≤ 9223372036854775807 := by simp only [maxLen] at hcm; omega
  have HN := Lib.hid hn
  have HC := Lib.hid hcells
  have HS := Lib.hid hs
  have hstep : ∀ k (hk : k < l.length), (l.take (k + 1)).flatten = (l.take k).flatten ++ l[k]'hk := fun k hk => by
    rw [List.take_succ_eq_append_getElem hk, List.flatten_append]
    simp only [List.flatten_cons, List.flatten_nil, List.append_nil]
  have hle : ∀ k, (l.take k).flatten.length ≤ l.flatten.length := fun k => by
    conv => rhs; rw [← List.take_append_drop k l]
    rw [List.flatten_append, List.length_append]; omega
  have HST := Lib.hid hstep
  have HLE := Lib.hid hle
  rw [hn] at hlc ⊢
  clear hn hcells hcm hstep hle hs
  go_enter Tryd.func28, Tryd.ntmps28
  go_wp2
  go_loop [11, 3] (fun i s => ∃ k : Nat, i = .int .i64 k ∧ k ≤ n ∧ s = .int .i64 ((l.take k).flatten.length : Nat)) (fun i _ => ((n : Int) - intOf i).toNat)
  case atStart => exact ⟨0, rfl, Nat.zero_le _, rfl⟩
  case round =>
    obtain ⟨k, rfl, hk, rfl⟩ := hrel
    by_cases e : k < n
    · obtain ⟨b, o, rfl, hc⟩ := HC.out (by rw [HN.out]; omega)
      have hkl : k < l.length := by rw [HN.out]; exact e
      obtain ⟨u, k1, k2⟩ := hc k hkl
      have hst := HST.out k hkl
      have h1 := HLE.out (k + 1)
      have h2 := HS.out
      rw [hst, List.length_append] at h1
      have hs2 : (l.take (k + 1)).flatten.length = (l.take k).flatten.length + (l[k]'hkl).length := by rw [hst, List.length_append]
      obtain ⟨pu, cu, rfl, _⟩ := k2
      generalize (l[k]'hkl).length = m at *
      obtain ⟨T, hT⟩ : ∃ T, (l.take k).flatten.length = T := ⟨_, rfl⟩
      rw [hT] at h1 hs2 ⊢
      have h3 : T + m ≤ 1000000000 := by omega
      have hw : IntKind.i64.wrap ((T : Int) + m) = (T : Int) + m := by rw [IntKind.wrap_i64]; omega
      have HS2 := Lib.hid hs2
      clear hc hst h1 h2 hT hs2
      go_wp2
      go_round
      case rel => exact ⟨k + 1, by go_num, by omega, by rw [HS2.out]; go_num⟩
      case measure => simp [intOf]; omega
    · obtain rfl : n = k := by omega
      rw [List.take_of_length_le (by rw [HN.out]; exact Nat.le_refl _)]
      have hS := HS.out
      obtain ⟨T, hT⟩ : ∃ T, l.flatten.length = T := ⟨_, rfl⟩
      rw [hT] at hS ⊢
      have HG := fun w => Lib.hid (grow0 T w hS)
      clear hT
      go_wp2_with (first | (go_at_call 57; go_must (refine (HG _).out.mono ?_); rintro e w1 ⟨u1, rfl, ho1, hg1⟩; have HO1 := Lib.hid ho1; have HG1 := Lib.hid hg1; clear ho1 hg1))
      go_loopw [27, 6] (fun i bv wr => ∃ k : Nat, i = .int .i64 k ∧ k ≤ n ∧ Own w.heap.size wr bv (l.take k).flatten ∧ Gr w wr) (fun i _ _ => n - (intOf i).toNat)
      case atStart => exact ⟨0, rfl, Nat.zero_le _, HO1.out, HG1.out⟩
      case round =>
        obtain ⟨k, rfl, hk, hown, hgr⟩ := hrel
        by_cases e : k < n
        · obtain ⟨b, o, rfl, hc⟩ := HC.out (by rw [HN.out]; omega)
          have hkl : k < l.length := by rw [HN.out]; exact e
          obtain ⟨u, k1, k2⟩ := hc k hkl
          have k1 := hgr.cell k1
          have HR := Lib.hid (k2.gr hgr)
          have hst := HST.out k hkl
          have h1 := HLE.out (k + 1)
          have h2 := HS.out
          rw [hst, List.length_append] at h1
          obtain ⟨pu, cu, rfl, _⟩ := k2
          have HL := Lib.hid (show (l.take k).flatten.length + (l[k]'hkl).length ≤ 140737488355328 by omega)
          have HOW := Lib.hid hown
          have HGR := Lib.hid hgr
          have HSS := Lib.hid hst
          generalize (l[k]'hkl).length = m at k1 HR
          clear hc hst h1 h2 hown hgr
          go_wp2_with (first | (at_builtin; go_must (refine wpList_append_gr Go.Proofs.YtgkccbfepjgjoaaDoor.u8 rfl _ _ rfl (w0 := w) HGR.out rfl HOW.out rfl HR.out HL.out ?_); intro v5 w5 ho5 hG5; have HO5 := Lib.hid ho5; clear ho5))
          go_roundw
          case rel => exact ⟨k + 1, by go_num, by omega, by rw [HSS.out]; exact HO5.out, hG5⟩
          case measure => simp [intOf]; omega
        · obtain rfl : n = k := by omega
          rw [List.take_of_length_le (by rw [HN.out]; exact Nat.le_refl _)] at hown
          go_wp2
          go_ret
          exact ⟨_, rfl, hown, hgr⟩

set_option maxRecDepth 100000 in
theorem reverse2 (w0 w : World) (g cap : Nat) (a b : Int) (h : OwnAt w g cap [a, b]) (h0 : Gr w0 w) (hg : w0.heap.size ≤ g) :
    Calls Tryd.prog 22 #[.slice (some ⟨g, 0, none⟩) 2 cap] w fun e w' => e = .returned (.tuple #[]) ∧ OwnAt w' g cap [b, a] ∧ Gr w0 w' := by
  have c0 : w.cell? ⟨g, 0, none⟩ = some (.int .u8 a) := h.cell 0 (by simp)
  have c1 : w.cell? ⟨g, 1, none⟩ = some (.int .u8 b) := h.cell 1 (by simp)
  have f0 := h.free 0
  have f1 := h.free 1
  have ha := h.byt a (by simp)
  have hb := h.byt b (by simp)
  have hc2 := h.2.1
  simp only [List.length_cons, List.length_nil] at hc2
  have hcm := h.2.2.1
  have hcm2 : cap ≤ 9223372036854775807 := by simp only [maxLen] at hcm; omega
  have H1 := Lib.hid ((h.drew.setCell 0 (by simp) b hb).setCell 1 (by simp) a ha)
  have H2 := Lib.hid ((h0.drew.setCell (p := ⟨g, 0, none⟩) hg (.int .u8 b)).setCell (p := ⟨g, 1, none⟩) hg (.int .u8 a))
  clear h ha hb hcm hg h0
  have mixed : Tryd.prog.follows .mixedOrders = true := by kernel_rfl
  go_enter Tryd.func22, Tryd.ntmps22
  go_wp2
  refine wp_loop_rounds 2 ?_
  rw [rounds_succ]
  go_wp2_with fail
  go_region_o
  go_wp2
  rw [rounds_succ]
  go_wp2
  go_end0
  exact ⟨rfl, H1.out, H2.out⟩
end Go.Proofs.YtgkccbfepjgjoaaDoor

/- FnSessionClrParts: the walk of the law. -/
namespace Go.Proofs.YtgkccbfepjgjoaaDoor
open Go Go.RowKit

set_option maxRecDepth 100000 in
theorem packed1 (m : Nat) (w : World) (h1 : 1 ≤ m) (h2 : m ≤ 255) :
    Calls Tryd.prog 27 #[.int .u64 m] w fun e w' => ∃ u, e = .returned u ∧ Own w.heap.size w' u [1, (m : Int)] ∧ Gr w w' := by
  have i0 : (0 : Int) < m := by omega
  have iw : IntKind.u8.wrap (m : Int) = m := by rw [IntKind.wrap_u8]; omega
  have tok1 : True := trivial
  go_enter Tryd.func27, Tryd.ntmps27
  go_wp2
  refine wp_loop_rounds 2 ?_
  rw [rounds_succ]
  go_wp2_with (first
    | (at_builtin; go_must (refine wpList_append_gr Go.Proofs.YtgkccbfepjgjoaaDoor.u8 rfl _ _ rfl (w0 := w) ((Gr.refl w).alloc _) rfl (xs := []) (Own.nil _ _) rfl (ys := [(m : Int)]) (Rd.lit w [(m : Int)] _ 1 (by intro x hx; simp at hx; omega) rfl (by rfl) (by simp [maxLen]) rfl) (by simp) ?_); intro v2 w2 ho2 hg2))
  obtain ⟨g, cap, hv, hB, hoa⟩ := ho2.form (by simp)
  subst hv
  have hcap := hoa.2.2.1
  have hcap2 : cap ≤ 9223372036854775807 := by simp only [maxLen] at hcap; omega
  have HO2 := Lib.hid (show Own w.heap.size w2 (.slice (some ⟨g, 0, none⟩) 1 cap) [(m : Int)] from ho2)
  have e8 : (m : Int) / 256 = 0 := by omega
  clear ho2 hoa hcap hB
  simp only [List.nil_append, List.length_cons, List.length_nil, Nat.zero_add]
  rw [rounds_succ]
  go_wp2_with (first
    | (at_builtin; go_must (refine wpList_append_gr Go.Proofs.YtgkccbfepjgjoaaDoor.u8 rfl _ _ rfl (w0 := w) (hg2.alloc _) rfl (xs := [(m : Int)]) (HO2.out.gr ((Gr.refl _).alloc _)) rfl (ys := [1]) (Rd.lit w2 [1] _ 1 (byt_of (by decide)) rfl (by rfl) (by simp [maxLen]) rfl) (by simp) ?_); intro v3 w3 ho3 hg3; obtain ⟨g3, cap3, hv3, hB3, hoa3⟩ := ho3.form (by simp); subst hv3; have HO3 := Lib.hid hoa3; clear ho3 hoa3)
    | (go_at_call 22; go_must (refine (reverse2 w w3 g3 cap3 (m : Int) 1 HO3.out hg3 hB3).mono ?_); rintro e w4 ⟨rfl, h4, h5⟩))
  go_ret
  exact ⟨_, rfl, h4.own hB3, h5⟩

/-- The bytes of a CLR's parts. -/
def partB (big : Bool) (x : List Int) : List Int := (if big = true then [1, (x.length : Int)] else [(x.length : Int)]) ++ x
theorem parts_all (big : Bool) (more : List Int) : ∀ l : List (List Int), (∀ x ∈ l, 1 ≤ x.length ∧ x.length ≤ 255) → Parts big (l.flatMap (partB big) ++ [0] ++ more) (some (l.flatten, more))
  | [], _ => by
    refine Parts.last (t := more) (fun _ => by show (0 : Int) % 128 ≤ 8; decide) ?_
    cases big
    · rfl
    · simp [partN, rdPk, pkV]
  | x :: l, h => by
    have ih := parts_all big more l (fun y hy => h y (by simp [hy]))
    obtain ⟨h1, h2⟩ := h x (by simp)
    have := Parts.more (r := (x :: l).flatMap (partB big) ++ [0] ++ more) (t := x ++ (l.flatMap (partB big) ++ [0] ++ more)) (n := x.length) (o := some (l.flatten, more)) ?_ ?_ h1 (by simp) (by rw [List.drop_left]; exact ih)
    · simpa using this
    · rintro rfl
      show (1 : Int) % 128 ≤ 8
      decide
    · cases big
      · simp [partN, partB]
      · have hw : wrap64 (x.length : Int) = x.length := by unfold wrap64; omega
        simp [partN, partB, rdPk, pkV, numV, Lib.beZ, Lib.beFromZ, hw]

theorem Rdd.three {W : World} {H : Nat} {a b c : Value} {x y z : List Int} {T : TypeId} {fr : Nat × Nat} (h : W.heap[H]? = some (.cells #[a, b, c] T fr)) (ha : Rd W a x) (hb : Rd W b y) (hc : Rd W c z) : Rdd W (.slice (some ⟨H, 0, none⟩) 3 3) [x, y, z] := by
  refine ⟨_, 3, rfl, Nat.le_refl _, by simp [maxLen], fun _ => ⟨H, 0, rfl, fun i hi => ?_⟩⟩
  match i, hi with
  | 0, _ => exact ⟨a, (blk_cell h 0).trans rfl, ha⟩
  | 1, _ => exact ⟨b, (blk_cell h 1).trans rfl, hb⟩
  | 2, _ => exact ⟨c, (blk_cell h 2).trans rfl, hc⟩
def GoodP (x : List Int) : Prop := 1 ≤ x.length ∧ x.length ≤ 255
theorem partB_len (big : Bool) : ∀ l : List (List Int), (∀ x ∈ l, GoodP x) → (l.flatMap (partB big)).length ≤ 257 * l.length ∧ l.flatten.length ≤ 255 * l.length
  | [], _ => by simp
  | x :: l, h => by
    have ih := partB_len big l (fun y hy => h y (by simp [hy]))
    have hx := (h x (by simp)).2
    have hp : (partB big x).length ≤ 257 := by unfold partB; cases big <;> simp <;> omega
    simp only [List.flatMap_cons, List.flatten_cons, List.length_append, List.length_cons]
    omega
theorem GoodP.snoc {l : List (List Int)} {k : Nat} (h : ∀ x ∈ l.take k, GoodP x) (hk : k < l.length) (hx : GoodP (l[k]'hk)) : ∀ x ∈ l.take (k + 1), GoodP x := by
  rw [List.take_succ_eq_append_getElem hk]
  intro x hm
  rcases List.mem_append.1 hm with hm | hm
  · exact h x hm
  · rw [List.mem_singleton.1 hm]; exact hx
theorem parts_take (big : Bool) {l : List (List Int)} {k : Nat} (hk : k < l.length) : 254 :: (l.take (k + 1)).flatMap (partB big) = (254 :: (l.take k).flatMap (partB big)) ++ (if big = true then [1, ((l[k]'hk).length : Int)] else [((l[k]'hk).length : Int)]) ++ (l[k]'hk) := by
  rw [List.take_succ_eq_append_getElem hk, List.flatMap_append]
  simp only [List.flatMap_cons, List.flatMap_nil, List.append_nil, partB, List.cons_append, List.append_assoc]

set_option maxRecDepth 100000 in
set_option maxHeartbeats 4000000 in
theorem law_parts (v v2 : Value) (l : List (List Int)) (big : Bool) (more : List Int) (E : Value) (w : World) (h : Rdd w v l) (hm : Rd w v2 more) (hE : EndE w E) :
    Calls Tryd.prog 9 #[v, .bool big, v2] w (RetT w) := by
  obtain ⟨bb, HF⟩ := fits9 v l w h
  have HF := Lib.hid HF
  have HE := Lib.hid hE
  have HL := fun W h => Lib.hid (sessionLive E W h)
  have HRR := Lib.hid h
  obtain ⟨p, c, rfl, hlc, hcm, hcells⟩ := id h
  obtain ⟨n, hn⟩ : ∃ n, l.length = n := ⟨_, rfl⟩
  obtain ⟨q, hq⟩ : ∃ q, more.length = q := ⟨_, rfl⟩
  have hcm2 : c ≤ 9223372036854775807 := by simp only [maxLen] at hcm; omega
  have HN := Lib.hid hn
  have HQ := Lib.hid hq
  have HM := Lib.hid hm
  obtain ⟨p2, c2, rfl, hc2, hcm3, _⟩ := id hm
  have hcm4 : c2 ≤ 9223372036854775807 := by simp only [maxLen] at hcm3; omega
  rw [hn] at hlc HF HRR ⊢
  rw [hq] at hc2 HM ⊢
  have HCL := Lib.hid (fun (W : World) (hg : Gr w W) i (hi : i < l.length) => by
    obtain ⟨b, o, e, hc⟩ := hcells (by omega)
    obtain ⟨u, k1, k2⟩ := hc i hi
    exact (⟨b, o, u, e, hg.cell k1, k2.gr hg⟩ : ∃ b o u, p = some ⟨b, o, none⟩ ∧ W.cell? ⟨b, o + i, none⟩ = some u ∧ Rd W u l[i]))
  clear hn hq hcm hcm3 h hm hE hcells
  cases bb
  · go_enter Tryd.func9, Tryd.ntmps9
    go_wp2_with (first | (go_at_call 19; go_must (refine HF.out.mono ?_); rintro e w1 ⟨rfl, rfl⟩))
    go_ret
    exact ⟨rfl, Gr.refl _⟩
  by_cases hbig : 2147483647 < q
  · go_enter Tryd.func9, Tryd.ntmps9
    go_wp2_with (first | (go_at_call 19; go_must (refine HF.out.mono ?_); rintro e w1 ⟨rfl, rfl⟩))
    go_ret
    exact ⟨rfl, Gr.refl _⟩
  have hbig : q ≤ 2147483647 := by omega
  by_cases h40 : 40 < n ∨ 1000 < q
  · by_cases h1 : 40 < n <;> by_cases h2 : 1000 < q <;> try (exfalso; omega)
    all_goals
      go_enter Tryd.func9, Tryd.ntmps9
      go_wp2_with (first
        | (go_at_call 19; go_must (refine HF.out.mono ?_); rintro e w1 ⟨rfl, rfl⟩)
        | (go_at_call 14; go_must (refine (HL _ (HE.out)).out.mono ?_); rintro e w4 ⟨rfl, hg4⟩))
      go_ret
      exact ⟨rfl, hg4⟩
  obtain ⟨h40, h1000⟩ : n ≤ 40 ∧ q ≤ 1000 := by omega
  go_enter Tryd.func9, Tryd.ntmps9
  go_wp2_with (first
    | (go_at_call 19; go_must (refine HF.out.mono ?_); rintro e w1 ⟨rfl, rfl⟩))
  have hO0 : Own w.heap.size (w.alloc (.cells #[.int .u8 254] 5)) (.slice (some ⟨w.heap.size, 0, none⟩) 1 1) [254] := OwnAt.own (g := w.heap.size) (cap := 1) ⟨⟨_, heap_alloc_new w _, rfl, rfl⟩, by simp, by simp [maxLen], byt_of (by decide)⟩ (Nat.le_refl _)
  have hG0 : Gr w (w.alloc (.cells #[.int .u8 254] 5)) := (Gr.refl w).alloc _
  generalize w.alloc (.cells #[.int .u8 254] 5) = W0 at *
  go_loopw [32, 7] (fun i bv wr => ∃ k : Nat, i = .int .i64 k ∧ k ≤ n ∧ (∀ x ∈ l.take k, GoodP x) ∧ Own w.heap.size wr bv (254 :: (l.take k).flatMap (partB big)) ∧ Gr w wr) (fun i _ _ => n - (intOf i).toNat)
  case atStart => exact ⟨0, rfl, Nat.zero_le _, fun x hx => by simp at hx, hO0, hG0⟩
  case round =>
    clear hO0 hG0
    obtain ⟨k, rfl, hk, hgood, hown, hgr⟩ := hrel
    by_cases hlt : k < n
    · have hkl : k < l.length := by rw [HN.out]; exact hlt
      obtain ⟨b, o, u, rfl, k1, hru⟩ := HCL.out w (Gr.refl w) k hkl
      have k1 := hgr.cell k1
      have hpt := parts_take big hkl
      have hsn := fun hx => GoodP.snoc hgood hkl hx
      have hpl := (partB_len big _ hgood).1
      have htk : (l.take k).length ≤ 40 := by rw [List.length_take]; omega
      generalize hx : l[k]'hkl = x at hru hpt hsn
      obtain ⟨m, hm⟩ : ∃ m, x.length = m := ⟨_, rfl⟩
      rw [hm] at hpt
      have HOW := Lib.hid hown
      have HGR := Lib.hid hgr
      have HPT := Lib.hid hpt
      have HSN := Lib.hid hsn
      have HPL := Lib.hid (show (254 :: (l.take k).flatMap (partB big)).length ≤ 20000 by rw [List.length_cons]; omega)
      obtain ⟨pu, cu, rfl, hcu, hcmu, _⟩ := id hru
      have hcmu : cu ≤ 9223372036854775807 := by simp only [maxLen] at hcmu; omega
      rw [hm] at hcu hru k1
      have HRU := Lib.hid hru
      have HMM := Lib.hid hm
      clear hx hkl hgood hown hgr hru hm hpt hsn hpl
      by_cases hB : m = 0 ∨ 255 < m
      · by_cases hB0 : m = 0 <;> by_cases hB1 : 255 < m <;> try (exfalso; omega)
        all_goals
          go_wp2_with (first
            | (go_at_call 14; go_must (refine (HL _ (HE.out.gr HGR.out)).out.mono ?_); rintro e w4 ⟨rfl, hg4⟩))
          go_ret
          exact ⟨rfl, HGR.out.trans hg4⟩
      · obtain ⟨hB0, hB1⟩ : 1 ≤ m ∧ m ≤ 255 := by omega
        have m0 : ((m : Int) == 0) = false := beq_eq_false_iff_ne.2 (by omega)
        have mw : IntKind.u8.wrap (m : Int) = m := by rw [IntKind.wrap_u8]; omega
        have mw2 : IntKind.u64.wrap (m : Int) = m := by rw [IntKind.wrap_u64]; omega
        have tok1 : True := trivial
        have HPK := fun W => Lib.hid (packed1 m W hB0 hB1)
        cases big
        · clear HPK
          go_wp2_with (first
            | (at_builtin; have _t := tok1; go_must (refine wpList_append_gr Go.Proofs.YtgkccbfepjgjoaaDoor.u8 rfl _ _ rfl (w0 := w) (HGR.out.alloc _) rfl (HOW.out.gr ((Gr.refl _).alloc _)) rfl (ys := [(m : Int)]) (Rd.lit wr [(m : Int)] _ 1 (by intro x hx; simp at hx; omega) rfl (by rfl) (by simp [maxLen]) rfl) (by have := HPL.out; rw [List.length_singleton]; omega) ?_); intro v5 w5 ho5 hG5; have HO5 := Lib.hid ho5; have HR5 := Lib.hid (hG5 : Gr w w5); clear ho5 tok1 _t)
            | (at_builtin; go_must (refine wpList_append_gr Go.Proofs.YtgkccbfepjgjoaaDoor.u8 rfl _ _ rfl (w0 := w) hG5 rfl HO5.out rfl (HRU.out.gr hG5) (by have := HPL.out; rw [List.length_append, HMM.out]; simp only [List.length_cons, List.length_nil]; simp only [List.length_cons] at this; omega) ?_); intro v6 w6 ho6 hG6; have HO6 := Lib.hid ho6; clear ho6))
          go_roundw
          case rel => exact ⟨k + 1, by go_num, by omega, HSN.out ⟨by rw [HMM.out]; exact hB0, by rw [HMM.out]; exact hB1⟩, by rw [HPT.out]; exact HO6.out, hG6⟩
          case measure => simp [intOf]; omega
        · go_wp2_with (first
            | (go_at_call 27; go_must (refine (HPK _).out.mono ?_); rintro e w4 ⟨u4, rfl, ho4, hg4⟩; have HO4 := Lib.hid ho4; have hG4 := HGR.out.trans hg4; have HG4 := Lib.hid hg4; clear ho4 hg4)
            | (at_builtin; have _t := tok1; go_must (refine wpList_append_gr Go.Proofs.YtgkccbfepjgjoaaDoor.u8 rfl _ _ rfl (w0 := w) hG4 rfl (HOW.out.gr HG4.out) rfl HO4.out.rd (by have := HPL.out; simp only [List.length_cons, List.length_nil]; simp only [List.length_cons] at this; omega) ?_); intro v5 w5 ho5 hG5; have HO5 := Lib.hid ho5; clear ho5 tok1 _t)
            | (at_builtin; go_must (refine wpList_append_gr Go.Proofs.YtgkccbfepjgjoaaDoor.u8 rfl _ _ rfl (w0 := w) hG5 rfl HO5.out rfl (HRU.out.gr hG5) (by have := HPL.out; rw [List.length_append, HMM.out]; simp only [List.length_cons, List.length_nil]; simp only [List.length_cons] at this; omega) ?_); intro v6 w6 ho6 hG6; have HO6 := Lib.hid ho6; clear ho6))
          go_roundw
          case rel => exact ⟨k + 1, by go_num, by omega, HSN.out ⟨by rw [HMM.out]; exact hB0, by rw [HMM.out]; exact hB1⟩, by rw [HPT.out]; exact HO6.out, hG6⟩
          case measure => simp [intOf]; omega
    · obtain rfl : n = k := by omega
      rw [List.take_of_length_le (by rw [HN.out]; exact Nat.le_refl _)] at hgood hown
      have hpl := partB_len big _ hgood
      have hln := HN.out
      have hB : (254 :: l.flatMap (partB big)).length ≤ 20000 := by rw [List.length_cons]; omega
      have hF : l.flatten.length ≤ 20000 := by omega
      have hFL : [254 :: l.flatMap (partB big), [0], more].flatten = 254 :: (l.flatMap (partB big) ++ [0] ++ more) := by simp
      have hFN : [254 :: l.flatMap (partB big), [0], more].flatten.length ≤ 1000000000 := by
        have := HQ.out
        simp only [List.flatten_cons, List.flatten_nil, List.append_nil, List.length_append, List.length_cons, List.length_nil] at *
        omega
      have hrun : Runs big [⟨2, 0, false, false⟩] (254 :: (l.flatMap (partB big) ++ [0] ++ more)) [⟨true, l.flatten, [], 0, ⟨#[]⟩⟩] (some more) :=
        Runs.cons (fun s ch E w h => got_clr s big ch E _ more l.flatten 0 false false w h (Clr.parts (parts_all big more l hgood)) (by omega) (by omega)) rfl (Runs.nil _)
      have HS := fun W u v hE hu hv => Lib.hid (sessionGet u v _ [⟨2, 0, false, false⟩] big _ _ E W hE hu (by rw [← hFL]; exact hFN) hv (by simp) hrun)
      have HC1 := fun W u h => Lib.hid (concat u [254 :: l.flatMap (partB big), [0], more] W h hFN)
      rw [hFL] at HC1
      have HC2 := fun W h => Lib.hid (concat (.slice p n c) l W h (by omega))
      obtain ⟨pb, cb, hub, _, hcb, _⟩ := id hown.rd
      subst hub
      obtain ⟨nb, hnb⟩ : ∃ nb, (254 :: l.flatMap (partB big)).length = nb := ⟨_, rfl⟩
      rw [hnb] at hown hB ⊢
      have HOW := Lib.hid hown
      have HGR := Lib.hid hgr
      clear hgood hpl hln hown hgr hrun hFL hFN hnb
      go_wp2_with (first
        | (go_at_call 28; go_must (refine (HC1 _ _ (Rdd.three (heap_new_at _ _ (by simp)) ((HOW.out.rd.gr ((Gr.refl _).alloc _)).gr ((Gr.refl _).alloc _)) ((Rd.lit wr [0] _ 1 (byt_of (by decide)) rfl (by rfl) (by simp [maxLen]) (by first | rfl | simp)).gr ((Gr.refl _).alloc _)) (((HM.out.gr HGR.out).gr ((Gr.refl _).alloc _)).gr ((Gr.refl _).alloc _)))).out.mono ?_); rintro e w5 ⟨u5, rfl, ho5, hg5⟩; have HO5 := Lib.hid ho5; have hG5 := ((HGR.out.alloc _).alloc _).trans hg5; clear ho5 hg5)
        | (go_at_call 13; go_must (refine (HS _ _ _ (HE.out.gr (hG5.alloc _)) (HO5.out.rd.gr ((Gr.refl _).alloc _)) (RdSt.one ⟨2, 0, false, false⟩ (heap_new_at _ _ (by simp)))).out.mono ?_); rintro e w6 ⟨g6, l6, left6, rfl, hO6, ho6, hl6, hg6⟩; obtain rfl := hl6 _ rfl; have hG6 := (hG5.alloc _).trans hg6; obtain ⟨gb6, gc6, gd6, go6, rfl, hgc6, hgm6, d0, d1, d2, d3, d4, rd6, ro6⟩ := hO6.one; have HR6 := Lib.hid ho6.rd; have HD6 := Lib.hid rd6; have HR7 := Lib.hid (HM.out.gr hG6); clear hO6 rd6 ro6 ho6 hg6))
      have hG7 := hG6.drew
      have hK0 := (Gr.refl w6).drew.cell d0
      have hK1 := (Gr.refl w6).drew.cell d1
      go_region_held3 (fun w' => w'.cell? ⟨gb6, 0, none⟩ = some (.bool true) ∧ w'.cell? ⟨gb6, 1, none⟩ = some gd6) (first | (with_reducible exact ⟨hg8.cell (hg7.cell hK0), hg8.cell (hg7.cell hK1)⟩) | (with_reducible exact ⟨hg7.cell hK0, hg7.cell hK1⟩) | (with_reducible exact ⟨hK0, hK1⟩))
        ((first
          | (go_at_call 28; go_must (refine (HC2 _ (HRR.out.gr hG7)).out.mono ?_); rintro e w7 ⟨u9, rfl, ho7, hg7⟩; have HO7 := Lib.hid ho7; clear ho7)
          | (go_at_call 17; have _t := HD6; go_must (refine (equal_same _ _ l.flatten _ (HD6.out.gr ((Gr.refl w6).drew.trans hg7)) HO7.out.rd).mono ?_); rintro e w9 ⟨rfl, rfl⟩; clear HD6 _t)
          | (go_at_call 17; go_must (refine (equal_same _ _ _ _ (HR6.out.gr ((Gr.refl w6).drew.trans hg7)) (HR7.out.gr ((Gr.refl w6).drew.trans hg7))).mono ?_); rintro e w9 ⟨rfl, rfl⟩)
          | (go_at_call 14; go_must (refine (HL _ (HE.out.gr (hG7.trans hg7))).out.mono ?_); rintro e w8 ⟨rfl, hg8⟩)))
      all_goals
        go_wp2_with fail
        go_ret
        exact ⟨rfl, (hG7.trans hg7).trans hg8⟩
end Go.Proofs.YtgkccbfepjgjoaaDoor
