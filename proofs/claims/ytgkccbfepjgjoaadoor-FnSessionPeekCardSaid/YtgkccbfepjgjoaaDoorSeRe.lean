/- The reference's reader: CLRs in parts. -/
import Derived.Test.YtgkccbfepjgjoaaDoorSeRd
namespace Go.Proofs.YtgkccbfepjgjoaaDoor
open Go Go.RowKit

theorem partN_false (b : Int) (t : List Int) : partN false (b :: t) = some (b, t) := by unfold partN; rw [if_neg (by decide)]
theorem partN_true (r : List Int) : partN true r = rdPk r := by unfold partN; rw [if_pos rfl]

set_option maxRecDepth 100000 in
set_option maxHeartbeats 4000000 in
theorem rclr_parts_true (r : Nat) (t : List Int) (w : World) (h : Sx w r (254 :: t) false false) :
    Calls Tryd.prog 51 #[.pointer (some ⟨r, 0, none⟩), .bool true] w (RetCl true w r (254 :: t)) := by
  have HT := Lib.hid (take_one h)
  have hl : t.length ≤ 2147483647 := by obtain ⟨v, _, _, _, _, hl⟩ := h; simp only [List.length_cons] at hl; omega
  clear h
  go_enter Tryd.func51, Tryd.ntmps51
  go_wp2_with (first
    | (go_at_call 50; go_must (refine HT.out.mono ?_); rintro e w1 ⟨u1, rfl, hr1, ho1, _, _, hs1, hf1⟩; have c1 := hs1.c1; have c2 := hs1.c2; obtain ⟨a, o, c, rfl, hc, hcm, k0⟩ := rd_one hr1))
  obtain ⟨B, hB⟩ : ∃ B, w1.heap.size = B := ⟨_, rfl⟩
  have hrB : r < B := by have := hs1.lt; omega
  have hwB : w.heap.size ≤ B := by have := hf1.size; omega
  have HI := Lib.hid (show CInv true B r w t (t.length + 1) (.slice none 0 0) w1 from ⟨hf1, Nat.le_of_eq hB.symm, .inl ⟨[], t, Own.nil _ _, hs1, fun s hs => hs1.offX s (by omega), Nat.le_refl _, by simp, fun o ho => by cases o <;> simpa using ho⟩⟩)
  clear hB hf1 hs1 c1 c2 k0 hr1 ho1 hc hcm
  go_loopg [6] (t.length + 1) (fun k ov wr => CInv true B r w t k ov wr)
  case atStart => exact HI.out
  case round =>
    clear HI
    obtain ⟨hF, hz, hcase⟩ := hrel
    rcases hcase with ⟨acc, rc, hown, hs, hoff, hk, hlen, hpp⟩ | ⟨rfl, acc, q, hown, hacc, hs, hpn⟩
    · have HPK := Lib.hid (packed r rc _ hs)
      have HPP := Lib.hid hpp
      have HO := Lib.hid hown
      have HOF := Lib.hid hoff
      obtain ⟨pv, nv, cv, rfl⟩ : ∃ p n c, u6 = .slice p n c := by obtain ⟨_, _, e, _⟩ := id hown.rd; exact ⟨_, _, _, e⟩
      clear hpp hown hoff hs
      go_wp2_with (first
        | (go_at_call 53; go_must (refine HPK.out.mono ?_)))
      rintro e w2 (⟨z, q, hps, hrd, rfl, hs2, hf2⟩ | ⟨hps, hrd, rfl, ⟨q, hs2⟩, hf2⟩ | ⟨rfl, ⟨q, hs2⟩, hf2⟩)
      · have hzb := rdPk_bd hrd
        have hO2 := HO.out.fx hf2.fx hrB
        have hF2 := hF.trans hf2
        have hz2 := hf2.size
        have HD := Lib.hid hrd
        have HS := Lib.hid hps
        have hql : q.length < rc.length := partN_len (big := true) (by rw [partN_true]; exact hrd)
        clear hrd hps
        by_cases hneg : z < 0 ∨ 1073741824 < z
        · have c1 := hs2.c1
          have c2 := hs2.c2
          have f2 := hs2.f2
          have hso := hs2.open'
          have hFo := hF2.open' hs2
          have c1' := hso.c1
          have c2' := hso.c2
          have hOo := hO2.fx ((Fx.refl r w2).set 2 (.bool true)) hrB
          by_cases hn1 : z < 0 <;> by_cases hn2 : 1073741824 < z <;> try (exfalso; omega)
          all_goals
            go_wp2_with fail
            go_ret
            exact ⟨_, acc, rfl, hOo.rd, own_off hOo hrB, fun s hs _ => own_off hOo (Nat.lt_of_lt_of_le hs hwB), by omega, hFo, .inr (.inr ⟨_, hso⟩)⟩
        · obtain ⟨m, rfl⟩ : ∃ m : Nat, z = (m : Int) := ⟨z.toNat, by omega⟩
          have hm : m ≤ 1073741824 := by omega
          have c1 := hs2.c1
          have c2 := hs2.c2
          clear hneg
          by_cases h0 : m = 0
          · subst h0
            go_wp2_with fail
            go_ret
            refine ⟨_, acc, rfl, hO2.rd, own_off hO2 hrB, fun s hs _ => own_off hO2 (Nat.lt_of_lt_of_le hs hwB), by omega, hF2, .inl ⟨q, Clr.parts ?_, hs2⟩⟩
            have := HPP.out _ (Parts.last (big := true) (fun _ => HS.out) (by rw [partN_true]; exact HD.out))
            simpa using this
          · have m0 : ((m : Int) == 0) = false := beq_eq_false_iff_ne.2 (by omega)
            have hoff2 : ∀ s, B ≤ s → OffX w2 r s := fun s hs => hf2.off s (HOF.out s hs)
            by_cases hmq : m ≤ q.length
            · have HTK := Lib.hid (take_ok r q m w2 hs2 hmq)
              have HMQ := Lib.hid hmq
              have HO2 := Lib.hid hO2
              have hgl : acc.length + m ≤ 140737488355328 := by omega
              have htl : (q.take m).length = m := by rw [List.length_take]; omega
              have hdl : (q.drop m).length = q.length - m := List.length_drop
              clear hO2 hs2
              go_wp2_with (first
                | (go_at_call 50; go_must (refine HTK.out.mono ?_); rintro e w3 ⟨u3, rfl, hr3, ho3, _, hlo3, hs3, hf3⟩; have hO3 := HO2.out.fx hf3.fx hrB; have hz3 := hf3.size; have HO3 := Lib.hid hO3; have HR3 := Lib.hid hr3; clear hO3 hr3 ho3)
                | (at_builtin; go_must (refine wpList_append_bytes Go.Proofs.YtgkccbfepjgjoaaDoor.u8 rfl _ _ rfl (B := B) rfl HO3.out rfl HR3.out (by rw [htl]; exact hgl) (by omega) ?_); intro v4 w4 ho4 hg4 _; have hbl := grown_below HO3.out hg4 (by omega)))
              have hoff3 : ∀ s, B ≤ s → OffX w3 r s := fun s hs => hf3.off s (hoff2 s hs)
              have hs4 := hs3.below hbl hrB hoff3
              have hF4 := (hF2.trans hf3).below hbl hwB hrB
              go_roundg ((q.drop m).length + 1)
              case measure => omega
              case rel => exact ⟨hF4, by have := hbl.size; omega, .inl ⟨acc ++ q.take m, q.drop m, ho4, hs4, fun s hs v hv => hoff3 s hs v (by rw [← World.cell?_of_block (a := ⟨r, 0, none⟩) (Below.block hbl r hrB)]; exact hv), Nat.le_refl _, by rw [List.length_append, htl, hdl]; omega, fun o ho => by
                have := HPP.out _ (Parts.more (big := true) (fun _ => HS.out) (by rw [partN_true]; exact HD.out) (by omega) HMQ.out ho)
                cases o <;> simpa using this⟩⟩
            · have HTK := Lib.hid (take_no r q m w2 hs2 (by omega))
              have HMQ := Lib.hid (show q.length < m by omega)
              have HO2 := Lib.hid hO2
              clear hO2 hs2
              go_wp2_with (first
                | (go_at_call 50; go_must (refine HTK.out.mono ?_); rintro e w3 ⟨rfl, ⟨q3, hs3⟩, hf3⟩; have hO3 := HO2.out.fx hf3.fx hrB; have hz3 := hf3.size; have HO3 := Lib.hid hO3; clear hO3)
                | (at_builtin; go_must (refine wpList_append_bytes Go.Proofs.YtgkccbfepjgjoaaDoor.u8 rfl _ _ rfl (B := B) rfl HO3.out rfl (Rd.nil _) (by simp; omega) (by omega) ?_); intro v4 w4 ho4 hg4 _; have hbl := grown_below HO3.out hg4 (by omega)))
              have hoff3 : ∀ s, B ≤ s → OffX w3 r s := fun s hs => hf3.off s (hoff2 s hs)
              have hs4 := hs3.below hbl hrB hoff3
              have hF4 := (hF2.trans hf3).below hbl hwB hrB
              go_roundg 0
              case measure => omega
              case rel => exact ⟨hF4, by have := hbl.size; omega, .inr ⟨rfl, acc, q3, by simpa using ho4, by omega, hs4, by
                have := HPP.out _ (Parts.short (big := true) (fun _ => HS.out) (by rw [partN_true]; exact HD.out) (by omega) (by omega) HMQ.out)
                simpa using this⟩⟩
      · have c1 := hs2.c1
        have hO2 := HO.out.fx hf2.fx hrB
        have HD := Lib.hid hrd
        have HS := Lib.hid hps
        clear hrd hps
        go_wp2_with fail
        go_ret
        refine ⟨_, acc, rfl, hO2.rd, own_off hO2 hrB, fun s hs _ => own_off hO2 (Nat.lt_of_lt_of_le hs hwB), by omega, hF.trans hf2, .inr (.inl ⟨Clr.parts ?_, q, hs2⟩)⟩
        have := HPP.out _ (Parts.torn (big := true) (fun _ => HS.out) (by rw [partN_true]; exact HD.out))
        simpa using this
      · have c1 := hs2.c1
        have c2 := hs2.c2
        have hO2 := HO.out.fx hf2.fx hrB
        go_wp2_with fail
        go_ret
        exact ⟨_, acc, rfl, hO2.rd, own_off hO2 hrB, fun s hs _ => own_off hO2 (Nat.lt_of_lt_of_le hs hwB), by omega, hF.trans hf2, .inr (.inr ⟨q, hs2⟩)⟩
    · have HPK := Lib.hid (packed_dead r q false _ hs)
      have HO := Lib.hid hown
      obtain ⟨pv, nv, cv, rfl⟩ : ∃ p n c, u6 = .slice p n c := by obtain ⟨_, _, e, _⟩ := id hown.rd; exact ⟨_, _, _, e⟩
      clear hown hs
      go_wp2_with (first
        | (go_at_call 53; go_must (refine HPK.out.mono ?_); rintro e w2 ⟨rfl, ⟨q2, hs2⟩, hf2⟩; have c1 := hs2.c1))
      have hO2 := HO.out.fx hf2.fx hrB
      go_ret
      exact ⟨_, acc, rfl, hO2.rd, own_off hO2 hrB, fun s hs _ => own_off hO2 (Nat.lt_of_lt_of_le hs hwB), by omega, hF.trans hf2, .inr (.inl ⟨Clr.parts hpn, q2, hs2⟩)⟩

set_option maxRecDepth 100000 in
set_option maxHeartbeats 4000000 in
theorem rclr_parts_false (r : Nat) (t : List Int) (w : World) (h : Sx w r (254 :: t) false false) :
    Calls Tryd.prog 51 #[.pointer (some ⟨r, 0, none⟩), .bool false] w (RetCl false w r (254 :: t)) := by
  have HT := Lib.hid (take_one h)
  have hl : t.length ≤ 2147483647 := by obtain ⟨v, _, _, _, _, hl⟩ := h; simp only [List.length_cons] at hl; omega
  clear h
  go_enter Tryd.func51, Tryd.ntmps51
  go_wp2_with (first
    | (go_at_call 50; go_must (refine HT.out.mono ?_); rintro e w1 ⟨u1, rfl, hr1, ho1, _, _, hs1, hf1⟩; have c1 := hs1.c1; have c2 := hs1.c2; obtain ⟨a, o, c, rfl, hc, hcm, k0⟩ := rd_one hr1))
  obtain ⟨B, hB⟩ : ∃ B, w1.heap.size = B := ⟨_, rfl⟩
  have hrB : r < B := by have := hs1.lt; omega
  have hwB : w.heap.size ≤ B := by have := hf1.size; omega
  have HI := Lib.hid (show CInv false B r w t (t.length + 1) (.slice none 0 0) w1 from ⟨hf1, Nat.le_of_eq hB.symm, .inl ⟨[], t, Own.nil _ _, hs1, fun s hs => hs1.offX s (by omega), Nat.le_refl _, by simp, fun o ho => by cases o <;> simpa using ho⟩⟩)
  clear hB hf1 hs1 c1 c2 k0 hr1 ho1 hc hcm
  go_loopg [6] (t.length + 1) (fun k ov wr => CInv false B r w t k ov wr)
  case atStart => exact HI.out
  case round =>
    clear HI
    obtain ⟨hF, hz, hcase⟩ := hrel
    rcases hcase with ⟨acc, rc, hown, hs, hoff, hk, hlen, hpp⟩ | ⟨rfl, acc, q, hown, hacc, hs, hpn⟩
    · have HPP := Lib.hid hpp
      have HOF := Lib.hid hoff
      obtain ⟨pv, nv, cv, rfl⟩ : ∃ p n c, u6 = .slice p n c := by obtain ⟨_, _, e, _⟩ := id hown.rd; exact ⟨_, _, _, e⟩
      clear hpp hoff
      cases rc with
      | nil =>
        have HTK := Lib.hid (take_no r [] 1 _ hs (by simp))
        have HO := Lib.hid hown
        clear hs hown
        go_wp2_with (first
          | (go_at_call 50; go_must (refine HTK.out.mono ?_); rintro e w2 ⟨rfl, ⟨q, hs2⟩, hf2⟩; have c1 := hs2.c1))
        have hO2 := HO.out.fx hf2.fx hrB
        go_ret
        refine ⟨_, acc, rfl, hO2.rd, own_off hO2 hrB, fun s hs _ => own_off hO2 (Nat.lt_of_lt_of_le hs hwB), by omega, hF.trans hf2, .inr (.inl ⟨Clr.parts ?_, q, hs2⟩)⟩
        have := HPP.out _ (Parts.torn (big := false) (fun h => by cases h) rfl)
        simpa using this
      | cons bb q =>
        have hbb := hs.byt bb (by simp)
        obtain ⟨m, rfl⟩ : ∃ m : Nat, bb = (m : Int) := ⟨bb.toNat, by omega⟩
        have HT1 := Lib.hid (take_one hs)
        have HO := Lib.hid hown
        simp only [List.length_cons] at hk hlen
        have hw : IntKind.i64.wrap (m : Int) = m := IntWalk.i64_in _ (by omega)
        clear hs hown
        by_cases h0 : m = 0
        · subst h0
          go_wp2_with (first
            | (go_at_call 50; go_must (refine HT1.out.mono ?_); rintro e w2 ⟨u2, rfl, hr2, ho2, _, _, hs2, hf2⟩; have c1 := hs2.c1; have c2 := hs2.c2; obtain ⟨a2, o2, cc2, rfl, hcc, hccm, k2⟩ := rd_one hr2))
          have hO2 := HO.out.fx hf2.fx hrB
          go_ret
          refine ⟨_, acc, rfl, hO2.rd, own_off hO2 hrB, fun s hs _ => own_off hO2 (Nat.lt_of_lt_of_le hs hwB), by omega, hF.trans hf2, .inl ⟨q, Clr.parts ?_, hs2⟩⟩
          have := HPP.out _ (Parts.last (big := false) (fun h => by cases h) (partN_false _ q))
          simpa using this
        · have m0 : ((m : Int) == 0) = false := beq_eq_false_iff_ne.2 (by omega)
          go_wp2_with (first
            | (go_at_call 50; have _t := HT1; go_must (refine HT1.out.mono ?_); rintro e w2 ⟨u2, rfl, hr2, ho2, _, _, hs2, hf2⟩; clear HT1 _t; have c1 := hs2.c1; have c2 := hs2.c2; obtain ⟨a2, o2, cc2, rfl, hcc, hccm, k2⟩ := rd_one hr2))
          have hO2 := HO.out.fx hf2.fx hrB
          have hF2 := hF.trans hf2
          have hz2 := hf2.size
          have hoff2 : ∀ s, B ≤ s → OffX w2 r s := fun s hs => hf2.off s (HOF.out s hs)
          by_cases hmq : m ≤ q.length
          · have HTK := Lib.hid (take_ok r q m w2 hs2 hmq)
            have HMQ := Lib.hid hmq
            have HO2 := Lib.hid hO2
            have hgl : acc.length + m ≤ 140737488355328 := by omega
            have htl : (q.take m).length = m := by rw [List.length_take]; omega
            have hdl : (q.drop m).length = q.length - m := List.length_drop
            clear hO2 hs2
            go_wp2_with (first
              | (go_at_call 50; go_must (refine HTK.out.mono ?_); rintro e w3 ⟨u3, rfl, hr3, ho3, _, hlo3, hs3, hf3⟩; have hO3 := HO2.out.fx hf3.fx hrB; have hz3 := hf3.size; have HO3 := Lib.hid hO3; have HR3 := Lib.hid hr3; clear hO3 hr3 ho3)
              | (at_builtin; go_must (refine wpList_append_bytes Go.Proofs.YtgkccbfepjgjoaaDoor.u8 rfl _ _ rfl (B := B) rfl HO3.out rfl HR3.out (by rw [htl]; exact hgl) (by omega) ?_); intro v4 w4 ho4 hg4 _; have hbl := grown_below HO3.out hg4 (by omega)))
            have hoff3 : ∀ s, B ≤ s → OffX w3 r s := fun s hs => hf3.off s (hoff2 s hs)
            have hs4 := hs3.below hbl hrB hoff3
            have hF4 := (hF2.trans hf3).below hbl hwB hrB
            go_roundg ((q.drop m).length + 1)
            case measure => omega
            case rel => exact ⟨hF4, by have := hbl.size; omega, .inl ⟨acc ++ q.take m, q.drop m, ho4, hs4, fun s hs v hv => hoff3 s hs v (by rw [← World.cell?_of_block (a := ⟨r, 0, none⟩) (Below.block hbl r hrB)]; exact hv), Nat.le_refl _, by rw [List.length_append, htl, hdl]; omega, fun o ho => by
              have := HPP.out _ (Parts.more (big := false) (fun h => by cases h) (partN_false _ q) (by omega) HMQ.out ho)
              cases o <;> simpa using this⟩⟩
          · have HTK := Lib.hid (take_no r q m w2 hs2 (by omega))
            have HMQ := Lib.hid (show q.length < m by omega)
            have HO2 := Lib.hid hO2
            clear hO2 hs2
            go_wp2_with (first
              | (go_at_call 50; go_must (refine HTK.out.mono ?_); rintro e w3 ⟨rfl, ⟨q3, hs3⟩, hf3⟩; have hO3 := HO2.out.fx hf3.fx hrB; have hz3 := hf3.size; have HO3 := Lib.hid hO3; clear hO3)
              | (at_builtin; go_must (refine wpList_append_bytes Go.Proofs.YtgkccbfepjgjoaaDoor.u8 rfl _ _ rfl (B := B) rfl HO3.out rfl (Rd.nil _) (by simp; omega) (by omega) ?_); intro v4 w4 ho4 hg4 _; have hbl := grown_below HO3.out hg4 (by omega)))
            have hoff3 : ∀ s, B ≤ s → OffX w3 r s := fun s hs => hf3.off s (hoff2 s hs)
            have hs4 := hs3.below hbl hrB hoff3
            have hF4 := (hF2.trans hf3).below hbl hwB hrB
            go_roundg 0
            case measure => omega
            case rel => exact ⟨hF4, by have := hbl.size; omega, .inr ⟨rfl, acc, q3, by simpa using ho4, by omega, hs4, by
              have := HPP.out _ (Parts.short (big := false) (fun h => by cases h) (partN_false _ q) (by omega) (by omega) HMQ.out)
              simpa using this⟩⟩
    · have HTK := Lib.hid (take_torn r q 1 false _ hs)
      have HO := Lib.hid hown
      obtain ⟨pv, nv, cv, rfl⟩ : ∃ p n c, u6 = .slice p n c := by obtain ⟨_, _, e, _⟩ := id hown.rd; exact ⟨_, _, _, e⟩
      clear hown hs
      go_wp2_with (first
        | (go_at_call 50; go_must (refine HTK.out.mono ?_); rintro e w2 ⟨rfl, ⟨q2, hs2⟩, hf2⟩; have c1 := hs2.c1))
      have hO2 := HO.out.fx hf2.fx hrB
      go_ret
      exact ⟨_, acc, rfl, hO2.rd, own_off hO2 hrB, fun s hs _ => own_off hO2 (Nat.lt_of_lt_of_le hs hwB), by omega, hF.trans hf2, .inr (.inl ⟨Clr.parts hpn, q2, hs2⟩)⟩
end Go.Proofs.YtgkccbfepjgjoaaDoor
