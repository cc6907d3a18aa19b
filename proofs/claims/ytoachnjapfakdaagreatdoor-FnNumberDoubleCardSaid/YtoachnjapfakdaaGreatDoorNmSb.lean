/- spec.NumberBytes: the form of a decimal number. -/
import Derived.Test.YtoachnjapfakdaaGreatDoorNmDg
import Derived.Test.YtoachnjapfakdaaGreatDoorNmFr
import Derived.Deep.DeepCutAuto
import Derived.Deep.RegionHeld3
namespace Go.Proofs.YtoachnjapfakdaaGreatDoor
open Go Go.RowKit

/-- Digits two by two. -/
def prs : List Int → List Int
  | a :: b :: r => (10 * a + b) :: prs r
  | [a] => [10 * a]
  | [] => []
theorem prs_length : ∀ l : List Int, (prs l).length = (l.length + 1) / 2
  | a :: b :: r => by rw [prs, List.length_cons, prs_length r]; simp only [List.length_cons]; omega
  | [a] => by simp [prs]
  | [] => by simp [prs]
theorem prs_d : ∀ l : List Int, D10 l → D100 (prs l)
  | a :: b :: r, h => fun x hx => by
    have ha := h a (by simp)
    have hb := h b (by simp)
    rw [prs] at hx
    rcases List.mem_cons.1 hx with rfl | hx
    · omega
    · exact prs_d r (fun y hy => h y (by simp [hy])) x hx
  | [a], h => fun x hx => by
    have ha := h a (by simp)
    simp [prs] at hx
    omega
  | [], _ => fun x hx => by simp [prs] at hx
theorem prs_take : ∀ (l : List Int) (k : Nat), 2 * k + 1 < l.length → (prs l).take (k + 1) = (prs l).take k ++ [10 * l.getD (2 * k) 0 + l.getD (2 * k + 1) 0]
  | a :: b :: r, 0, _ => by simp [prs]
  | a :: b :: r, k + 1, h => by
    have := prs_take r k (by simp at h; omega)
    rw [prs, List.take_succ_cons, this, List.take_succ_cons, show 2 * (k + 1) = 2 * k + 1 + 1 by omega]
    simp
  | [a], k, h => absurd h (by simp)
  | [], k, h => absurd h (by simp)

/-- An even number of digits, by a nought at the end. -/
def padE (l : List Int) : List Int := if l.length % 2 = 1 then l ++ [0] else l
theorem OwnAt.fresh' (w : World) (xs : List Int) (cs : Array Value) (n H : Nat) (hb : Byt xs) (hc : cs = (xs.map (Value.int .u8)).toArray) (hn : xs.length = n) (hm : n ≤ maxLen) (hH : w.heap.size = H) : OwnAt (w.alloc (.cells cs 5)) H n xs := by
  subst hn; subst hH; exact OwnAt.fresh w xs cs hb hc hm
theorem byt_nil : Byt [] := fun _ h => by cases h
theorem byt_one {x : Int} (h : 0 ≤ x ∧ x < 256) : Byt [x] := fun z hz => by have := List.mem_singleton.1 hz; omega
theorem padE_even (l : List Int) : (padE l).length % 2 = 0 := by
  unfold padE
  split
  · rw [List.length_append, List.length_singleton]; omega
  · omega
def lead (e : Int) (d : List Int) : List Int := if e % 2 = 0 then 0 :: d else d
/-- The form. -/
def sform (neg : Bool) (d : List Int) (e : Int) : List Int :=
  if neg = true then (62 - e / 2) :: ((prs (padE (lead e d))).map (digB true) ++ [102]) else (193 + e / 2) :: (prs (padE (lead e d))).map (digB false)

theorem D10.cons0 {l : List Int} (h : D10 l) : D10 (0 :: l) := fun x hx => by
  rcases List.mem_cons.1 hx with rfl | hx
  · omega
  · exact h x hx
theorem D10.app0 {l : List Int} (h : D10 l) : D10 (l ++ [0]) := fun x hx => by
  rcases List.mem_append.1 hx with hx | hx
  · exact h x hx
  · have := List.mem_singleton.1 hx; omega
theorem D10.lead {l : List Int} (h : D10 l) (e : Int) : D10 (lead e l) := by unfold Proofs.YtoachnjapfakdaaGreatDoor.lead; split; exact h.cons0; exact h
theorem D10.padE {l : List Int} (h : D10 l) : D10 (padE l) := by unfold Proofs.YtoachnjapfakdaaGreatDoor.padE; split; exact h.app0; exact h

theorem grown_cell {a w : World} {row : Option Nat} (h : a.grownBy w row) {p : Addr} {v : Value} (hc : a.cell? p = some v) (hne : some p.block ≠ row) : w.cell? p = some v := by
  have hb := h.block p.block (World.block_lt_of_cell? a p hc) hne
  unfold World.cell? at hc ⊢
  rw [hb]; exact hc
theorem step_append_own {P : Program} {w : World} {ops : Array Oper} {o : Oper} {a : Act} {K : Act → World → Prop} {Q : Exit → Act → World → Prop} {E : Prop} {t : TypeId} (L : U8 P t) (hgd : o.guard = none) (s x : Operand)
    (ho : o.op = .call { callee := .builtin .append, args := #[s, x], argTypes := #[t, t] }) {B : Nat} {v : Value} {xs : List Int} (hs : a.eval s = v) (hown : Own B w v xs)
    {u : Value} {ys : List Int} (hx : a.eval x = u) (hr : Rd w u ys) (hlim : xs.length + ys.length ≤ 140737488355328) (hB : B ≤ w.heap.size)
    (h : ∀ v' w', Own B w' v' (xs ++ ys) → w.grownBy w' v.ownBlock → (v'.ownBlock = v.ownBlock ∨ v'.ownBlock = some w.heap.size) → K (a.put o.dst v') w') :
    if Region.wanted o (yielded ops a.tmps) = true then Oper.wp P o a w K Q else E := by
  have hwd : Region.wanted o (yielded ops a.tmps) = true := by simp [Region.wanted, hgd]
  rw [if_pos hwd]
  exact wp_append_bytes L s x ho hs hown hx hr hlim hB h

set_option maxRecDepth 100000 in
set_option maxHeartbeats 2000000 in
theorem specBytes (v : Value) (d : List Int) (neg : Bool) (e : Int) (w : World) (h : Rd w v d) (hd : D10 d) (hl : 1 ≤ d.length ∧ d.length ≤ 30) (he : -100 ≤ e ∧ e ≤ 100) :
    Calls Tryz.prog 14 #[v, .bool neg, .int .i64 e] w fun e' w' => ∃ u, e' = .returned u ∧ Own w.heap.size w' u (sform neg d e) ∧ Gr w w' := by
  obtain ⟨q, hq⟩ : ∃ q, e / 2 = q := ⟨_, rfl⟩
  have hle : (lead e d).length ≤ 31 := by unfold lead; split; (rw [List.length_cons]; omega); omega
  have hpe : (padE (lead e d)).length ≤ 32 := by unfold padE; split <;> (try rw [List.length_append, List.length_singleton]) <;> omega
  have hpv := padE_even (lead e d)
  have hdl : D10 (padE (lead e d)) := (hd.lead e).padE
  have hel : e % 2 = 0 → lead e d = [0] ++ d := fun h => by unfold lead; rw [if_pos h]; rfl
  have hol : ¬ e % 2 = 0 → lead e d = d := fun h => by unfold lead; rw [if_neg h]
  have hp1 : (lead e d).length % 2 = 1 → padE (lead e d) = lead e d ++ [0] := fun h => by unfold padE; rw [if_pos h]
  have hp2 : ¬ (lead e d).length % 2 = 1 → padE (lead e d) = lead e d := fun h => by unfold padE; rw [if_neg h]
  have hF : sform neg d e = if neg = true then (62 - q) :: ((prs (padE (lead e d))).map (digB true) ++ [102]) else (193 + q) :: (prs (padE (lead e d))).map (digB false) := by unfold sform; rw [hq]
  rw [hF]
  have hPl := prs_length (padE (lead e d))
  have hPd := prs_d _ hdl
  have hPt := prs_take (padE (lead e d))
  obtain ⟨P, hP0⟩ : ∃ P, prs (padE (lead e d)) = P := ⟨_, rfl⟩
  rw [hP0] at hPl hPd hPt ⊢
  clear hP0
  generalize padE (lead e d) = E at *
  generalize lead e d = D at *
  obtain ⟨p0, c0, rfl, hrd⟩ : ∃ p c, v = .slice p d.length c ∧ Rd w (.slice p d.length c) d := by obtain ⟨p, c, rfl, h'⟩ := h; exact ⟨p, c, rfl, p, c, rfl, h'⟩
  obtain ⟨n, hn⟩ : ∃ n, d.length = n := ⟨_, rfl⟩
  rw [hn] at hl hrd ⊢
  obtain ⟨K, hK⟩ : ∃ K, E.length = 2 * K := ⟨E.length / 2, by omega⟩
  rw [hK] at hPl hPt
  have hK16 : K ≤ 16 := by omega
  have HRD := Lib.hid hrd
  have HN := Lib.hid hn
  have HEL := Lib.hid hel
  have HOL := Lib.hid hol
  have HP1 := Lib.hid hp1
  have HP2 := Lib.hid hp2
  have HPL := Lib.hid hPl
  have HPD := Lib.hid hPd
  have HPT := Lib.hid hPt
  have HLE := Lib.hid hle
  have HK := Lib.hid hK
  have HED := Lib.hid hdl
  have HQ := Lib.hid hq
  obtain ⟨he0, he1⟩ := he
  obtain ⟨hl0, hl1⟩ := hl
  have hq0 : -50 ≤ q := by omega
  have hq1 : q ≤ 50 := by omega
  have hnz : (((n : Nat) : Int) == 0) = false := by rw [beq_eq_false_iff_ne]; omega
  clear hrd hn hel hol hp1 hp2 hPl hPd hPt hle hpe hpv hdl hF hd hK h hq
  go_enter Tryz.func14, Tryz.ntmps14
  go_upto_if 29 with (first
    | (at_builtin; go_must (refine wpList_append_gr Go.Proofs.YtoachnjapfakdaaGreatDoor.u8 rfl _ _ rfl (w0 := w.alloc (.cells #[] 5)) ((Gr.refl _).alloc _) rfl (xs := []) (OwnAt.own (B := (w.alloc (.cells #[] 5)).heap.size) (OwnAt.fresh' (w.alloc (.cells #[] 5)) [] #[] 0 (w.heap.size + 1) byt_nil rfl rfl (Nat.zero_le _) (by simp)) (by simp)) rfl (HRD.out.gr (((Gr.refl w).alloc _).alloc _)) (by rw [HN.out]; simp; omega) ?_); intro v2 w2 ho2 hg2))
  have HP0 := Lib.hid (show Own w.heap.size (w.alloc (.cells #[] 5)) (.slice (some ⟨w.heap.size, 0, none⟩) 0 0) [] from (OwnAt.fresh' w [] #[] 0 w.heap.size byt_nil rfl rfl (Nat.zero_le _) rfl).own (Nat.le_refl _))
  have hgW1 := (Gr.refl w).alloc (.cells #[] 5)
  have hs1 : (w.alloc (.cells #[] 5)).heap.size = w.heap.size + 1 := by simp
  generalize w.alloc (.cells #[] 5) = W1 at *
  rw [List.nil_append] at ho2
  obtain ⟨g2, cap2, hv2, hB2, hat2⟩ := ho2.form (by rw [HN.out]; omega)
  rw [HN.out] at hv2
  subst hv2
  have hiff : e.tmod 2 = 0 ↔ e % 2 = 0 := by rw [← Int.dvd_iff_tmod_eq_zero, Int.dvd_iff_emod_eq_zero]
  have HO2 := Lib.hid ho2
  have HG2 := Lib.hid hg2
  clear ho2 hg2 hat2 hB2
  go_cut [8, 9] from 18 to 35 (fun u h wc => Own W1.heap.size wc u D ∧ h = .int .i64 (2 * q) ∧ Gr W1 wc)
  case first =>
    have HI := Lib.hid hiff
    clear hiff
    by_cases hev : e % 2 = 0
    · have ht : (e.tmod 2 == 0) = true := by rw [beq_iff_eq]; exact HI.out.2 hev
      have HEV := Lib.hid hev
      clear hev
      go_wp2_with (first
        | (at_builtin; go_must (refine wpList_append_gr Go.Proofs.YtoachnjapfakdaaGreatDoor.u8 rfl _ _ rfl (w0 := W1) (HG2.out.alloc _) rfl (xs := [0]) (OwnAt.own (B := W1.heap.size) (OwnAt.fresh' w2 [0] #[.int .u8 0] 1 w2.heap.size (byt_one (by omega)) rfl rfl (by simp [maxLen]) rfl) HG2.out.size) rfl (HO2.out.rd.gr ((Gr.refl _).alloc _)) (by rw [HN.out]; simp; omega) ?_); intro v3 w3 ho3 hg3))
      go_meet
      exact ⟨by rw [HEL.out HEV.out]; exact ho3, by have := HEV.out; have := HQ.out; congr 1; omega, hg3⟩
    · have ht : (e.tmod 2 == 0) = false := by rw [beq_eq_false_iff_ne]; exact fun h => hev (HI.out.1 h)
      have HEV := Lib.hid hev
      clear hev
      go_wp2_with fail
      go_meet
      exact ⟨by rw [HOL.out HEV.out]; exact HO2.out, by have := HEV.out; have := HQ.out; congr 1; omega, HG2.out⟩
  case rest =>
    clear hiff
    obtain ⟨hown, rfl, hgc⟩ := hcut
    obtain ⟨m, hm⟩ : ∃ m, D.length = m := ⟨_, rfl⟩
    have hm1 : 1 ≤ m := by
      rw [← hm]
      by_cases hev : e % 2 = 0
      · rw [HEL.out hev]; simp
      · rw [HOL.out hev, HN.out]; exact hl0
    have hm31 : m ≤ 31 := by rw [← hm]; exact HLE.out
    have hpp1 := HP1.out
    have hpp2 := HP2.out
    rw [hm] at hpp1 hpp2
    obtain ⟨g3, cap3, hv3, hB3, hat3⟩ := hown.form (by omega)
    rw [hm] at hv3
    subst hv3
    have HPP1 := Lib.hid hpp1
    have HPP2 := Lib.hid hpp2
    have HM := Lib.hid hm
    have HW3 := Lib.hid hown
    have HG3 := Lib.hid hgc
    clear hpp1 hpp2 hm hown hgc hat3 hB3
    go_upto_if 38 with fail
    go_cut [8] from 18 to 42 (fun u wx => Own W1.heap.size wx u E ∧ Gr W1 wx)
    case first =>
      by_cases hodd : m % 2 = 1
      · have ht : (((m : Nat) : Int) % 2 == 1) = true := by rw [beq_iff_eq]; omega
        have HOD := Lib.hid hodd
        clear hodd
        go_wp2_with (first
          | (at_builtin; go_must (refine wpList_append_gr Go.Proofs.YtoachnjapfakdaaGreatDoor.u8 rfl _ _ rfl (w0 := W1) (HG3.out.alloc _) rfl (xs := D) (HW3.out.gr ((Gr.refl wc).alloc _)) rfl (ys := [0]) (OwnAt.rd (OwnAt.fresh' wc [0] #[.int .u8 0] 1 wc.heap.size (byt_one (by omega)) rfl rfl (by simp [maxLen]) rfl)) (by rw [HM.out]; simp; omega) ?_); intro v4 w4 ho4 hg4))
        go_meet
        exact ⟨by rw [HPP1.out HOD.out]; exact ho4, hg4⟩
      · have ht : (((m : Nat) : Int) % 2 == 1) = false := by rw [beq_eq_false_iff_ne]; omega
        have HOD := Lib.hid hodd
        clear hodd
        go_wp2_with fail
        go_meet
        exact ⟨by rw [HPP2.out HOD.out]; exact HW3.out, HG3.out⟩
    case rest =>
      obtain ⟨hown, hgx⟩ := hcut
      have HK1 := HK.out
      have hK1 : 1 ≤ K := by
        have h1 : E.length ≥ m := by
          by_cases hodd : m % 2 = 1
          · rw [HPP1.out hodd, List.length_append, HM.out]; omega
          · rw [HPP2.out hodd, HM.out]; exact Nat.le_refl _
        omega
      obtain ⟨g4, cap4, hv4, hB4, hat4⟩ := hown.form (by rw [HK1]; omega)
      rw [HK1] at hv4
      subst hv4
      have hcap4 : 2 * K ≤ cap4 := by have := hat4.2.1; rw [HK1] at this; exact this
      have hcm4 : cap4 ≤ 9223372036854775807 := by have := hat4.2.2.1; simp only [maxLen] at this; omega
      have hEL := HK1
      obtain ⟨N, hN⟩ : ∃ N, 2 * K = N := ⟨_, rfl⟩
      rw [hN] at hcap4 hEL ⊢
      have hPL2 : P.length = K := by rw [HPL.out]; omega
      have HPL2 := Lib.hid hPL2
      have HPD2 := Lib.hid (show ∀ k, k < P.length → 0 ≤ P.getD k 0 ∧ P.getD k 0 ≤ 99 from fun k hk => by rw [List.getD_eq_getElem?_getD, List.getElem?_eq_getElem hk]; exact HPD.out _ (List.getElem_mem hk))
      have HNN := Lib.hid hN
      have HGX := Lib.hid (hgW1.trans hgx)
      have HAT4 := Lib.hid hat4
      have HEL4 := Lib.hid hEL
      have HP1 := HP0.out.gr hgx
      have HG4 := Lib.hid (show w.heap.size < g4 by omega)
      have hq2 : (2 * q).tdiv 2 = q := by rw [Int.mul_comm]; exact Int.mul_tdiv_cancel q (by omega)
      have hKi : (K : Int) < 20 := by omega
      clear hgx hown hat4 HK1 hPL2 hN hB4 hs1 hEL
      go_wp2_with fail
      go_loopw [7, 10] (fun p i wr => ∃ k : Nat, i = .int .i64 ((2 * k : Nat) : Int) ∧ k ≤ K ∧ Own w.heap.size wr p (P.take k) ∧ Gr w wr ∧ OwnAt wr g4 cap4 E ∧ p.ownBlock ≠ some g4) (fun _ i _ => N + 2 - (intOf i).toNat)
      case atStart => exact ⟨0, rfl, Nat.zero_le _, HP1, HGX.out, HAT4.out, by have := HG4.out; simp [Value.ownBlock]; omega⟩
      case round =>
        obtain ⟨k, rfl, hk, hown, hgr, hat, hob⟩ := hrel
        by_cases hkK : k < K
        · obtain ⟨j, hj⟩ : ∃ j, 2 * k = j := ⟨_, rfl⟩
          rw [hj]
          have hjN : j + 1 < N := by have := HNN.out; omega
          have k1 := hat.cell j (by rw [HEL4.out]; omega)
          have k2 := hat.cell (j + 1) (by rw [HEL4.out]; omega)
          obtain ⟨a0, a1⟩ := HED.out.getD j (by rw [HEL4.out]; omega)
          obtain ⟨b0, b1⟩ := HED.out.getD (j + 1) (by rw [HEL4.out]; omega)
          have hst := HPT.out k (by rw [hj]; have := HNN.out; omega)
          rw [hj] at hst
          generalize E.getD j 0 = a at *
          generalize E.getD (j + 1) 0 = b at *
          have hlk : (P.take k).length ≤ 20 := by rw [List.length_take]; omega
          have HST := Lib.hid hst
          have HLK := Lib.hid hlk
          have HW := Lib.hid hown
          have HR := Lib.hid hgr
          have HAT := Lib.hid hat
          have HOB := Lib.hid hob
          have HJ := Lib.hid hj
          have jl : j < N := by omega
          clear hst hlk hown hgr hat hob hj
          have c0 : 0 ≤ 10 * a + b := by omega
          have c1 : 10 * a + b < 256 := by omega
          obtain ⟨c, hcc⟩ : ∃ c, 10 * a + b = c := ⟨_, rfl⟩
          have hw1 : IntKind.u8.wrap (10 * a) = 10 * a := by rw [IntKind.wrap_u8]; omega
          have hw2 : IntKind.u8.wrap (10 * a + b) = c := by rw [IntKind.wrap_u8]; omega
          rw [hcc] at c0 c1
          have HST2 := Lib.hid (show P.take (k + 1) = P.take k ++ [c] by rw [HST.out, hcc])
          clear hcc
          have i0 : (0 : Int) ≤ (j : Int) := by omega
          have i1 : (j : Int) < (N : Int) := by omega
          have i2 : (0 : Int) ≤ (j : Int) + 1 := by omega
          have i3 : (j : Int) + 1 < (N : Int) := by omega
          have i4 : IntKind.i64.wrap ((j : Int) + 1) = (j : Int) + 1 := by rw [IntKind.wrap_i64]; omega
          go_wp2_with fail
          go_region_held3 (fun w' => w'.cell? ⟨g4, j, none⟩ = some (.int .u8 a) ∧ w'.cell? ⟨g4, j + 1, none⟩ = some (.int .u8 b)) (first | go_keep | exact ⟨grown_cell hgb5 (Gr.cell (by with_reducible first | exact (Gr.refl _).alloc _ | exact ((Gr.refl _).alloc _).drew | exact ((Gr.refl _).drew).alloc _) k1) (fun h => HOB.out h.symm), grown_cell hgb5 (Gr.cell (by with_reducible first | exact (Gr.refl _).alloc _ | exact ((Gr.refl _).alloc _).drew | exact ((Gr.refl _).drew).alloc _) k2) (fun h => HOB.out h.symm)⟩)
            ((first
              | (refine step_append_own Go.Proofs.YtoachnjapfakdaaGreatDoor.u8 (by rfl) _ _ (by rfl) (B := w.heap.size) (xs := P.take k) (by rfl) (HW.out.gr (by with_reducible first | exact (Gr.refl _).alloc _ | exact ((Gr.refl _).alloc _).drew | exact ((Gr.refl _).drew).alloc _)) (by rfl) (ys := [c]) (by first | exact Rd.lit _ [c] _ 1 (byt_one ⟨c0, c1⟩) rfl rfl (by simp [maxLen]) rfl | exact (Rd.lit _ [c] _ 1 (byt_one ⟨c0, c1⟩) rfl rfl (by simp [maxLen]) rfl).gr ((Gr.refl _).drew)) (by have := HLK.out; simp only [List.length_cons, List.length_nil] at this ⊢; omega) (by have := HR.out.size; simp; omega) ?_; intro v5 w5 ho5 hgb5 hob5)))
          all_goals
            have hG5 : Gr w w5 := Gr.grown (by with_reducible first | exact HR.out.alloc _ | exact (HR.out.alloc _).drew | exact (HR.out.drew).alloc _) hgb5 HW.out.row
            have hC5 : OwnAt w5 g4 cap4 E := OwnAt.grown (HAT.out.gr (by with_reducible first | exact (Gr.refl _).alloc _ | exact ((Gr.refl _).alloc _).drew | exact ((Gr.refl _).drew).alloc _)) hgb5 (fun h => HOB.out h.symm)
            have hlt := HAT.out.lt
            have hv5 : v5.ownBlock ≠ some g4 := by
              rcases hob5 with h | h
              · rw [h]; exact HOB.out
              · rw [h]; intro h2; injection h2 with h2; simp at h2; omega
            have HV5 := Lib.hid hv5
            have HB5 := Lib.hid hob5
            have HG5 := Lib.hid hgb5
            clear hv5 hob5 hgb5
            go_wp2_with fail
            go_roundw
            case rel => exact ⟨k + 1, by have := HJ.out; congr 1; omega, by omega, by rw [HST2.out]; exact ho5, hG5, hC5, HV5.out⟩
            case measure => first | (simp [intOf]; done) | (simp [intOf]; omega)
        · obtain rfl : K = k := by omega
          have hlast := HNN.out
          rw [List.take_of_length_le (by rw [HPL2.out]; omega)] at hown
          obtain ⟨g6, cap6, rfl, hB6, hat6⟩ := hown.form (by rw [HPL2.out]; omega)
          have hcap6 := hat6.2.1
          have hcm6 : cap6 ≤ 9223372036854775807 := by have := hat6.2.2.1; simp only [maxLen] at this; omega
          rw [HPL2.out] at hcap6
          have HLP := HPL2.out
          rw [HLP]
          have HPAT := Lib.hid hat6
          have HWR := Lib.hid hgr
          rw [hlast]
          clear hat6 hgr hown hlast hat hob HLP hB6
          generalize hwz : wr = wz at *
          clear hwz
          cases neg
          · obtain ⟨F, hF⟩ : ∃ F, 193 + q = F := ⟨_, rfl⟩
            have f00 : 0 ≤ F := by omega
            have f01 : F < 256 := by omega
            have HFF := Lib.hid hF
            have HO0 := Lib.hid (show Own wz.heap.size (wz.alloc (.cells #[.int .u8 F] 5)) (.slice (some ⟨wz.heap.size, 0, none⟩) 1 1) (F :: (P.take 0).map (digB false)) from (OwnAt.fresh' wz [F] #[.int .u8 F] 1 wz.heap.size (byt_one ⟨f00, f01⟩) rfl rfl (by simp [maxLen]) rfl).own (Nat.le_refl _))
            go_wp2_with fail
            go_loopw [12, 72] (fun o i wr => ∃ k : Nat, i = .int .i64 k ∧ k ≤ K ∧ Own wz.heap.size wr o (F :: (P.take k).map (digB false)) ∧ Gr wz wr) (fun _ i _ => ((K : Int) - intOf i).toNat)
            case atStart => exact ⟨0, rfl, Nat.zero_le _, HO0.out, (Gr.refl _).alloc _⟩
            case round =>
              obtain ⟨k, rfl, hk, hown, hgr⟩ := hrel
              have HW := Lib.hid hown
              have HR := Lib.hid hgr
              by_cases hkK : k < K
              · have kc := (HPAT.out.gr hgr).cell k (by rw [HPL2.out]; exact hkK)
                obtain ⟨hp0, hp1⟩ := HPD2.out k (by rw [HPL2.out]; exact hkK)
                have hst : (P.take (k + 1)).map (digB false) = (P.take k).map (digB false) ++ [digB false (P.getD k 0)] := by
                  rw [List.take_succ_eq_append_getElem (by rw [HPL2.out]; exact hkK), List.map_append, List.getD_eq_getElem?_getD, List.getElem?_eq_getElem (by rw [HPL2.out]; exact hkK)]
                  rfl
                generalize P.getD k 0 = y at *
                have hdg : digB false y = y + 1 := by unfold digB; simp
                rw [hdg] at hst
                have HST := Lib.hid hst
                have hlk : (F :: (P.take k).map (digB false)).length ≤ 20 := by rw [List.length_cons, List.length_map, List.length_take]; omega
                have HLK := Lib.hid hlk
                clear hst hdg hown hgr hlk
                go_wp2_with (first
                  | (at_builtin; go_must (refine wpList_append_gr Go.Proofs.YtoachnjapfakdaaGreatDoor.u8 rfl _ _ rfl (w0 := wz) (HR.out.alloc _) rfl (xs := F :: (P.take k).map (digB false)) (HW.out.gr ((Gr.refl wr).alloc _)) rfl (ys := [y + 1]) (OwnAt.rd (OwnAt.fresh' wr [y + 1] #[.int .u8 (y + 1)] 1 wr.heap.size (byt_one (by omega)) rfl rfl (by simp [maxLen]) rfl)) (by have := HLK.out; simp only [List.length_cons, List.length_nil] at this ⊢; omega) ?_); intro v5 w5 ho5 hg5))
                go_roundw
                case rel => exact ⟨k + 1, by go_num, by omega, by rw [HST.out]; exact ho5, hg5⟩
                case measure => first | (simp [intOf]; done) | (simp [intOf]; omega)
              · obtain rfl : K = k := by omega
                rw [List.take_of_length_le (by rw [HPL2.out]; omega)] at HW
                go_wp2_with fail
                go_ret
                refine ⟨_, rfl, ?_, HWR.out.trans HR.out⟩
                exact HW.out.mono HWR.out.size
          · obtain ⟨F, hF⟩ : ∃ F, 62 - q = F := ⟨_, rfl⟩
            have f00 : 0 ≤ F := by omega
            have f01 : F < 256 := by omega
            have HFF := Lib.hid hF
            have HO0 := Lib.hid (show Own wz.heap.size (wz.alloc (.cells #[.int .u8 F] 5)) (.slice (some ⟨wz.heap.size, 0, none⟩) 1 1) (F :: (P.take 0).map (digB true)) from (OwnAt.fresh' wz [F] #[.int .u8 F] 1 wz.heap.size (byt_one ⟨f00, f01⟩) rfl rfl (by simp [maxLen]) rfl).own (Nat.le_refl _))
            go_wp2_with fail
            go_loopw [15, 89] (fun o i wr => ∃ k : Nat, i = .int .i64 k ∧ k ≤ K ∧ Own wz.heap.size wr o (F :: (P.take k).map (digB true)) ∧ Gr wz wr) (fun _ i _ => ((K : Int) - intOf i).toNat)
            case atStart => exact ⟨0, rfl, Nat.zero_le _, HO0.out, (Gr.refl _).alloc _⟩
            case round =>
              obtain ⟨k, rfl, hk, hown, hgr⟩ := hrel
              have HW := Lib.hid hown
              have HR := Lib.hid hgr
              by_cases hkK : k < K
              · have kc := (HPAT.out.gr hgr).cell k (by rw [HPL2.out]; exact hkK)
                obtain ⟨hp0, hp1⟩ := HPD2.out k (by rw [HPL2.out]; exact hkK)
                have hst : (P.take (k + 1)).map (digB true) = (P.take k).map (digB true) ++ [digB true (P.getD k 0)] := by
                  rw [List.take_succ_eq_append_getElem (by rw [HPL2.out]; exact hkK), List.map_append, List.getD_eq_getElem?_getD, List.getElem?_eq_getElem (by rw [HPL2.out]; exact hkK)]
                  rfl
                generalize P.getD k 0 = y at *
                have hdg : digB true y = 101 - y := by unfold digB; simp
                rw [hdg] at hst
                have HST := Lib.hid hst
                have hlk : (F :: (P.take k).map (digB true)).length ≤ 20 := by rw [List.length_cons, List.length_map, List.length_take]; omega
                have HLK := Lib.hid hlk
                clear hst hdg hown hgr hlk
                go_wp2_with (first
                  | (at_builtin; go_must (refine wpList_append_gr Go.Proofs.YtoachnjapfakdaaGreatDoor.u8 rfl _ _ rfl (w0 := wz) (HR.out.alloc _) rfl (xs := F :: (P.take k).map (digB true)) (HW.out.gr ((Gr.refl wr).alloc _)) rfl (ys := [101 - y]) (OwnAt.rd (OwnAt.fresh' wr [101 - y] #[.int .u8 (101 - y)] 1 wr.heap.size (byt_one (by omega)) rfl rfl (by simp [maxLen]) rfl)) (by have := HLK.out; simp only [List.length_cons, List.length_nil] at this ⊢; omega) ?_); intro v5 w5 ho5 hg5))
                go_roundw
                case rel => exact ⟨k + 1, by go_num, by omega, by rw [HST.out]; exact ho5, hg5⟩
                case measure => first | (simp [intOf]; done) | (simp [intOf]; omega)
              · obtain rfl : K = k := by omega
                rw [List.take_of_length_le (by rw [HPL2.out]; omega)] at HW
                have hlk : (F :: P.map (digB true)).length ≤ 20 := by rw [List.length_cons, List.length_map, HPL2.out]; omega
                have HLK := Lib.hid hlk
                clear hlk hown hgr
                go_wp2_with (first
                  | (at_builtin; go_must (refine wpList_append_gr Go.Proofs.YtoachnjapfakdaaGreatDoor.u8 rfl _ _ rfl (w0 := wz) (HR.out.alloc _) rfl (xs := F :: P.map (digB true)) (HW.out.gr ((Gr.refl wr).alloc _)) rfl (ys := [102]) (OwnAt.rd (OwnAt.fresh' wr [102] #[.int .u8 102] 1 wr.heap.size (byt_one (by omega)) rfl rfl (by simp [maxLen]) rfl)) (by have := HLK.out; simp only [List.length_cons, List.length_nil] at this ⊢; omega) ?_); intro v5 w5 ho5 hg5))
                go_ret
                refine ⟨_, rfl, ?_, HWR.out.trans hg5⟩
                exact ho5.mono HWR.out.size
end Go.Proofs.YtoachnjapfakdaaGreatDoor
