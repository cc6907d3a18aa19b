/- goora.BuildUrl with options: the walk. -/
import Derived.Test.YtpadpdmidiaeoaaGreatDoorUoI
import Derived.Sort.MapsRangeIn
namespace Go.Proofs.YtpadpdmidiaeoaaGreatDoor
open Go Go.RowKit Go.Lib Go.Maps

theorem ownM_gr {a w : World} {b n : Nat} {l : List Op} (h : OwnM a b n l) (g : Gr a w) : OwnM w b n l := by
  obtain ⟨es, clock, hb, rest⟩ := h
  exact ⟨es, clock, g.heap hb, rest⟩

set_option maxRecDepth 100000 in
set_option maxHeartbeats 8000000 in
theorem buildUrlO (server service user pw : List UInt8) (n : Int) (hn0 : 0 ≤ n) (hn1 : n ≤ 65535) (h1 : server.length ≤ 1000) (h2 : service.length ≤ 1000) (h3 : user.length ≤ 1000) (h4 : pw.length ≤ 1000)
    (l : List Op) (b : Nat) (hl0 : l ≠ []) (hl20 : l.length ≤ 20) (hnd : (l.map Op.n).Nodup) (hok : ∀ x ∈ l, OkO x) (hamp : ∀ t ∈ optsL l, (38 : UInt8) ∉ t) (w : World) (hu : TabU w) (ht : Tab10 w) (hs : TabS w) (hown : OwnM w b 20 l) :
    Calls Tryz.prog 23 #[.string (bs server), .int .i64 n, .string (bs service), .string (bs user), .string (bs pw), .map (some b)] w
      fun e w' => (∃ l', l'.Perm l ∧ e = .returned (.string (bs (urlL server (Lib.itoa n) service user pw ++ 63 :: midL (optsL l'))))) ∧ Gr w w' := by
  have HP1 := fun w ht => Lib.hid (pathEscape user (by omega) w ht)
  have HP2 := fun w ht => Lib.hid (pathEscape pw (by omega) w ht)
  have HP3 := fun w ht => Lib.hid (pathEscape service (by omega) w ht)
  have HI := fun w ht => Lib.hid (itoa n (by omega) (by omega) w ht)
  have hil := itoa_len n (by omega) (by omega)
  have HJ := fun w => Lib.hid (joinHost (bs server) (bs (Lib.itoa n)) w (by rw [bs_size]; omega) (by rw [bs_size]; omega))
  have hjs : (joinS (bs server) (bs (Lib.itoa n))).size ≤ 2000 := by
    rw [joinS_bs, bs_size]
    rcases hostL_len server with e | e <;> rw [e] <;> simp <;> omega
  have he : bs (urlL server (Lib.itoa n) service user pw) = ((((((⟨#[111, 114, 97, 99, 108, 101, 58, 47, 47]⟩ : ByteArray) ++ bs (esc user)) ++ ⟨#[58]⟩) ++ bs (esc pw)) ++ ⟨#[64]⟩) ++ joinS (bs server) (bs (Lib.itoa n))) ++ ⟨#[47]⟩ ++ bs (esc service) := by
    rw [joinS_bs]
    rw [show (⟨#[111, 114, 97, 99, 108, 101, 58, 47, 47]⟩ : ByteArray) = bs [111, 114, 97, 99, 108, 101, 58, 47, 47] from rfl, show (⟨#[58]⟩ : ByteArray) = bs [58] from rfl, show (⟨#[64]⟩ : ByteArray) = bs [64] from rfl, show (⟨#[47]⟩ : ByteArray) = bs [47] from rfl]
    simp only [bs_append, urlL, List.append_assoc, List.cons_append, List.nil_append]
  obtain ⟨HD, hHD⟩ : ∃ HD, urlL server (Lib.itoa n) service user pw = HD := ⟨_, rfl⟩
  rw [hHD] at he ⊢
  have s1 : (bs (esc user)).size ≤ 3000 := by rw [bs_size, esc_len]; have := cntE_le user; omega
  have s2 : (bs (esc pw)).size ≤ 3000 := by rw [bs_size, esc_len]; have := cntE_le pw; omega
  have s3 : (bs (esc service)).size ≤ 3000 := by rw [bs_size, esc_len]; have := cntE_le service; omega
  clear hHD h1 h2 h3 h4 hn0 hn1 hil
  generalize bs (esc user) = X1 at *
  generalize bs (esc pw) = X2 at *
  generalize bs (esc service) = X3 at *
  generalize bs user = U at *
  generalize bs pw = PW at *
  generalize bs service = SV at *
  generalize joinS (bs server) (bs (Lib.itoa n)) = J at *
  generalize bs (Lib.itoa n) = D at *
  generalize bs server = HO at *
  have k9 : (⟨#[111, 114, 97, 99, 108, 101, 58, 47, 47]⟩ : ByteArray).size = 9 := rfl
  have k1 : (⟨#[58]⟩ : ByteArray).size = 1 := rfl
  have k2 : (⟨#[64]⟩ : ByteArray).size = 1 := rfl
  have k3 : (⟨#[47]⟩ : ByteArray).size = 1 := rfl
  have hHDl : HD.length ≤ 12000 := by rw [← bs_size, he]; simp only [ByteArray.size_append, k9, k1, k2, k3]; omega
  have z1 : (⟨#[111, 114, 97, 99, 108, 101, 58, 47, 47]⟩ : ByteArray).size + X1.size ≤ 9223372036854775807 := by rw [k9]; omega
  have z2 : ((⟨#[111, 114, 97, 99, 108, 101, 58, 47, 47]⟩ : ByteArray) ++ X1).size + (⟨#[58]⟩ : ByteArray).size ≤ 9223372036854775807 := by simp only [ByteArray.size_append, k9, k1]; omega
  have z3 : ((⟨#[111, 114, 97, 99, 108, 101, 58, 47, 47]⟩ : ByteArray) ++ X1 ++ ⟨#[58]⟩).size + X2.size ≤ 9223372036854775807 := by simp only [ByteArray.size_append, k9, k1]; omega
  have z4 : ((⟨#[111, 114, 97, 99, 108, 101, 58, 47, 47]⟩ : ByteArray) ++ X1 ++ ⟨#[58]⟩ ++ X2).size + (⟨#[64]⟩ : ByteArray).size ≤ 9223372036854775807 := by simp only [ByteArray.size_append, k9, k1, k2]; omega
  have z5 : ((⟨#[111, 114, 97, 99, 108, 101, 58, 47, 47]⟩ : ByteArray) ++ X1 ++ ⟨#[58]⟩ ++ X2 ++ ⟨#[64]⟩).size + J.size ≤ 9223372036854775807 := by simp only [ByteArray.size_append, k9, k1, k2]; omega
  have z6 : ((⟨#[111, 114, 97, 99, 108, 101, 58, 47, 47]⟩ : ByteArray) ++ X1 ++ ⟨#[58]⟩ ++ X2 ++ ⟨#[64]⟩ ++ J).size + (⟨#[47]⟩ : ByteArray).size ≤ 9223372036854775807 := by simp only [ByteArray.size_append, k9, k1, k2, k3]; omega
  have z7 : ((⟨#[111, 114, 97, 99, 108, 101, 58, 47, 47]⟩ : ByteArray) ++ X1 ++ ⟨#[58]⟩ ++ X2 ++ ⟨#[64]⟩ ++ J ++ ⟨#[47]⟩).size + X3.size ≤ 9223372036854775807 := by simp only [ByteArray.size_append, k9, k1, k2, k3]; omega
  have z8 : ((⟨#[111, 114, 97, 99, 108, 101, 58, 47, 47]⟩ : ByteArray) ++ X1 ++ ⟨#[58]⟩ ++ X2 ++ ⟨#[64]⟩ ++ J ++ ⟨#[47]⟩ ++ X3).size + (⟨#[63]⟩ : ByteArray).size ≤ 9223372036854775807 := by
    have k4 : (⟨#[63]⟩ : ByteArray).size = 1 := rfl
    simp only [ByteArray.size_append, k9, k1, k2, k3, k4]; omega
  have he2 : (⟨#[111, 114, 97, 99, 108, 101, 58, 47, 47]⟩ : ByteArray) ++ X1 ++ ⟨#[58]⟩ ++ X2 ++ ⟨#[64]⟩ ++ J ++ ⟨#[47]⟩ ++ X3 ++ (⟨#[63]⟩ : ByteArray) = bs (HD ++ [63]) := by
    rw [← bs_append, he]; rfl
  have HE2 := Lib.hid he2
  have HHDL := Lib.hid hHDl
  clear he he2 k9 k1 k2 k3 s1 s2 s3 hjs hHDl
  have HU := Lib.hid hu
  have HT := Lib.hid ht
  have HS := Lib.hid hs
  have HOWN := Lib.hid hown
  have HOK := Lib.hid hok
  have HND := Lib.hid hnd
  have HAMP := Lib.hid hamp
  have HL0 := Lib.hid hl0
  have HL20 := Lib.hid hl20
  have tok1 := True.intro; have tok2 := True.intro
  have hnm : ∀ W, (binOp .neq 49 (.map (some b)) (.map none)).run Tryz.prog W = .ok (.bool true) W := fun W => run_neq_map_nil W _ _ _ (some b) Tryz.underlying49
  clear hu ht hs hown hok hnd hamp hl0 hl20
  go_enter Tryz.func23, Tryz.ntmps23
  go_wp2_with (first
    | (have _t := tok1; go_at_call 40; clear tok1 _t; go_must (with_reducible refine (HP1 _ HU.out).out.mono ?_); rintro e w1 ⟨rfl, hg1⟩; have HG1 := Lib.hid hg1; clear hg1)
    | (have _t := tok2; go_at_call 40; clear tok2 _t; go_must (with_reducible refine (HP2 _ (HU.out.gr HG1.out)).out.mono ?_); rintro e w2 ⟨rfl, hg2⟩; have HG2 := Lib.hid (HG1.out.trans hg2); clear hg2)
    | (go_at_call 26; go_must (with_reducible refine (HI _ (HT.out.gr HG2.out)).out.mono ?_); rintro e w3 ⟨rfl, hg3⟩; have HG3 := Lib.hid (HG2.out.trans hg3); clear hg3)
    | (go_at_call 41; go_must (with_reducible refine (HJ _).out.mono ?_); rintro e w4 ⟨rfl, hw⟩; obtain rfl := hw.symm)
    | (go_at_call 40; go_must (with_reducible refine (HP3 _ (HU.out.gr HG3.out)).out.mono ?_); rintro e w5 ⟨rfl, hg5⟩; have HG5 := Lib.hid (HG3.out.trans hg5); clear hg5)
    | (at_range; refine wpList_range_own _ rfl _ 49 rfl 9 9 keyS Tryz.underlying49 _ b 20 _ rfl (ownM_gr HOWN.out HG5.out) ?_; intro w0 hrg0 hg0 hs0))
  go_frame
  have hwr : w.heap.size ≤ w5.heap.size := HG5.out.size
  obtain ⟨r, hr⟩ : ∃ r, w5.heap.size = r := ⟨_, rfl⟩
  have HG0 := Lib.hid (HG5.out.grown hg0 (fun j ej => by cases ej))
  rw [hr] at hrg0 hwr ⊢
  have HRG0 := Lib.hid hrg0
  have HWR := Lib.hid hwr
  rw [HE2.out]
  clear hr hrg0 hg0 hs0 hwr z1 z2 z3 z4 z5 z6 z7 z8 HE2 HP1 HP2 HP3 HI HJ HG1 HG2 HG3 HG5 hnm HOWN HT hw
  go_loopw [13] (fun s wr => ∃ (done : List Op) (left : Lit → Bool) (cnt : Nat), Hid (wr.ranges Tryz.prog 9 (plainElem (H := Unit) Tryz.prog 9) b r 20 (dOf l) left cnt) ∧ Hid (Come l done left) ∧ Hid (Gr w wr) ∧ ∃ RB, s = .string RB ∧ Hid (RB = bs ((HD ++ [63]) ++ ampL (optsL done)))) (fun _ wr => wr.rangeLeft b r)
  case atStart => exact ⟨[], _, _, HRG0, Come.start l, HG0, _, rfl, (by show _ = _; simp [optsL, ampL])⟩
  case round =>
    obtain ⟨done, left, cnt, HRG, HC, HGR, RB, rfl, HRB⟩ := hrel
    go_wp2_with (first
      | (at_next; refine wpList_next_ranges _ rfl _ rfl 9 keyS (plainElem (H := Unit) Tryz.prog 9) Value.string Value.string (fun key kl hk => Maps.keyOf_string_inv Tryz.underlying9 hk) (fun v y hv => by obtain ⟨c, rfl, _⟩ := plainElem_string_inv Tryz.underlying9 hv; exact ⟨c, rfl⟩) b r 20 _ _ _ rfl HRG.out ?_ ?_))
    · intro hc0 hl0
      have hperm := HC.out.stop HND.out hl0
      have hne : optsL done ≠ [] := by
        intro e
        refine HL0.out ?_
        have hd : done = [] := by
          cases done with
          | nil => rfl
          | cons x d =>
            simp only [optsL, List.flatMap_cons, List.append_eq_nil_iff] at e
            rw [optL_parts] at e
            have := splitL_pos 44 (trimB x.v)
            simp only [List.map_eq_nil_iff] at e
            unfold partsO at e
            rw [e.1] at this
            simp at this
        subst hd
        exact List.Perm.nil_eq hperm ▸ rfl
      have hT : ∀ t ∈ optsL done, t ≠ [] ∧ (38 : UInt8) ∉ t := fun t ht => by
        obtain ⟨x, hx, ht⟩ := List.mem_flatMap.1 ht
        refine ⟨fun e => ?_, HAMP.out t (List.mem_flatMap.2 ⟨x, hperm.mem_iff.1 hx, ht⟩)⟩
        obtain ⟨p, _, rfl⟩ := List.mem_map.1 ht
        simp [optP] at e
      obtain ⟨A, x, hA, hx⟩ := midL_last _ hne hT
      have hlen := opts_len done (fun x hx => HOK.out x (hperm.mem_iff.1 hx))
      have hdl := come_len HC.out
      have hl20 := HL20.out
      have hhd := HHDL.out
      have e1 : (HD ++ [63]) ++ ampL (optsL done) = (HD ++ 63 :: A) ++ [x, 38] := by rw [ampL_mid _ hne, hA]; simp
      have e2 : (HD ++ 63 :: A) ++ [x] = HD ++ 63 :: midL (optsL done) := by rw [hA]; simp
      have HTR := fun W => Lib.hid (zzTrimRight (HD ++ 63 :: A) x 38 hx (by
        have e3 := congrArg List.length e1
        simp only [List.length_append, List.length_cons, List.length_nil] at e3 ⊢
        have : done.length * 310000 ≤ 20 * 310000 := Nat.mul_le_mul_right _ (by omega)
        omega) W)
      have HPERM := Lib.hid hperm
      have HE := Lib.hid e2
      obtain rfl : RB = bs ((HD ++ 63 :: A) ++ [x, 38]) := by rw [HRB.out, e1]
      clear HRB
      clear hc0 hl0 hperm hne hT hA hx hlen hdl hl20 hhd e1 e2
      generalize bs ((HD ++ 63 :: A) ++ [x, 38]) = R1 at *
      go_wp2_with (first
        | (go_at_call 46; go_must (refine (HTR _).out.mono ?_); rintro e w7 ⟨rfl, hg7⟩))
      go_ret
      exact ⟨⟨done, HPERM.out, by show Ending.returned (.string (bs (HD ++ 63 :: (A ++ [x])))) = _; rw [← HE.out]; simp⟩, HGR.out.trans hg7⟩
    · intro X C kl y yp w1 cnt1 hkey hlk hv hat hrg1 hlt hg1 hs1 hen
      obtain ⟨o, ho, rfl⟩ := HC.out.of kl hlk
      obtain ⟨s', es', ek, _⟩ := WideMaps.string_of_keyOf Tryz.underlying9 hkey
      injection es' with es'
      injection ek with ek
      obtain ⟨c', ec', ey, _⟩ := plainElem_string_inv Tryz.underlying9 hv
      injection ec' with ec'
      have hat0 := hat (.map [])
      rw [dOf_at l HND.out o ho] at hat0
      injection ey with ey1 ey2
      rw [ey1] at hat0
      injection hat0 with hat0
      injection hat0 with hat0
      obtain rfl : X = bs o.n := by rw [es', ek, bs_of]
      obtain rfl : C = bs o.v := by rw [ec', hat0, bs_of]
      clear es' ek ec' ey1 ey2 hat0 hat hv hkey
      have HGR1 := Lib.hid (HGR.out.grown hg1 (fun j ej => by cases ej; exact HWR.out))
      have HC1 := Lib.hid (HC.out.step HND.out ho hlk)
      have hok := HOK.out o ho
      have HTV := fun W hS => Lib.hid (trimAny o.v hok.ok.val hok.ok.1 (by have := hok.v; omega) W hS)
      have HSP : ∀ W, Hid (Calls Tryz.prog 43 #[.string (bs (trimB o.v)), .string (bs [44])] W fun e w' => ∃ v, e = .returned v ∧ OwnT W.heap.size w' v (partsO o) ∧ Gr W w') := fun W => Lib.hid (zzSplit (trimB o.v) 44 (by have := trimB_len o.v; have := hok.v; omega) W)
      have HUP := fun W => Lib.hid (upS o hok W)
      have HTP : ∀ p ∈ partsO o, ∀ W, TabS W → Hid _ := fun p hp W hS => Lib.hid (trimAny p (hok.ok.part hp).1 (hok.ok.part hp).2 (by have := hok.len.2 p hp; omega) W hS)
      have HQE : ∀ p ∈ partsO o, ∀ W, TabU W → Hid _ := fun p hp W hS => Lib.hid (queryEscape (trimB p) (by have := hok.len.2 p hp; have := trimB_len p; omega) W hS)
      have HAL := fun k => Lib.hid (hok.amp k)
      have HPL := Lib.hid hok.len.2
      have hpl := hok.len.1
      have hpos : 0 < (partsO o).length := splitL_pos _ _
      have hcmp : ((bs (toUpperA o.n)).toList == (⟨#[83, 69, 82, 86, 69, 82]⟩ : ByteArray).toList) = decide (o.n.map lowB = srvL) := by
        rw [show (⟨#[83, 69, 82, 86, 69, 82]⟩ : ByteArray) = bs [83, 69, 82, 86, 69, 82] from rfl, bs_eq]
        exact decide_eq_decide.2 (upper_server o.n)
      have hOP : ∀ p, optP o.n p = o.n ++ 61 :: (if decide (o.n.map lowB = srvL) = true then p else escQ p) := fun p => by unfold optP; simp
      have hns : (bs o.n).size ≤ 100 := by rw [bs_size]; exact hok.n
      have HOP := Lib.hid hOP
      have HFIN : Hid (ampL (optsL (done ++ [o])) = ampL (optsL done) ++ ampL (((partsO o).take (partsO o).length).map fun p => optP o.n (trimB p))) := Lib.hid (by rw [optsL_snoc, ampL_append, optL_parts, List.take_length])
      have HQT : Hid (((HD ++ [63]) ++ ampL (optsL done)).length ≤ 7000000) := Lib.hid (by
        have hlen := opts_len done (fun x hx => HOK.out x (HC.out.sub x hx))
        have hdl := come_len HC.out
        have hl20 := HL20.out
        have hhd := HHDL.out
        have : done.length * 310000 ≤ 20 * 310000 := Nat.mul_le_mul_right _ (by omega)
        simp only [List.length_append, List.length_cons, List.length_nil]
        omega)
      obtain ⟨qs, hqs⟩ : ∃ qs, decide (o.n.map lowB = srvL) = qs := ⟨_, rfl⟩
      rw [hqs] at hcmp HOP
      rw [show (⟨#[83, 69, 82, 86, 69, 82]⟩ : ByteArray).toList = [83, 69, 82, 86, 69, 82] by simp] at hcmp
      have HRG1 := Lib.hid hrg1
      have HLT := Lib.hid hlt
      have HQTB : Hid (RB = bs ((HD ++ [63]) ++ ampL (optsL done))) := HRB
      obtain ⟨QT, hQT⟩ : ∃ QT, (HD ++ [63]) ++ ampL (optsL done) = QT := ⟨_, rfl⟩
      rw [hQT] at HQT HQTB
      have HQT7 := HQT
      have HRG0' := HRG
      clear HQT HRG
      have HREL : Hid (∀ _ : List UInt8, (HD ++ [63]) ++ ampL (optsL (done ++ [o])) = QT ++ ampL (((partsO o).take (partsO o).length).map fun p => optP o.n (trimB p))) := Lib.hid (fun _ => by rw [HFIN.out, ← hQT]; simp only [List.append_assoc])
      obtain ⟨P, hP⟩ : ∃ P, partsO o = P := ⟨_, rfl⟩
      rw [hP] at HSP HTP HQE HAL HPL hpl hpos HREL
      obtain ⟨F, hF⟩ : ∃ F : List UInt8 → List UInt8, (fun p => optP o.n (trimB p)) = F := ⟨_, rfl⟩
      have HF : Hid (∀ p, F p = o.n ++ 61 :: (if qs = true then trimB p else escQ (trimB p))) := Lib.hid (fun p => by rw [← hF]; exact HOP.out (trimB p))
      rw [hF] at HREL HAL
      obtain ⟨NM, hNM⟩ : ∃ NM, bs o.n = NM := ⟨_, rfl⟩
      have HNM := Lib.hid hNM
      rw [hNM] at hen hns HUP ⊢
      obtain ⟨VV, hVV⟩ : ∃ VV, bs o.v = VV := ⟨_, rfl⟩
      rw [hVV] at hen HTV ⊢
      obtain ⟨TV, hTV⟩ : ∃ TV, bs (trimB o.v) = TV := ⟨_, rfl⟩
      rw [hTV] at HSP HTV
      obtain ⟨UP, hUP⟩ : ∃ UP, bs (toUpperA o.n) = UP := ⟨_, rfl⟩
      rw [hUP] at HUP hcmp
      obtain ⟨m, hm⟩ : ∃ m, P.length = m := ⟨_, rfl⟩
      have HM := Lib.hid hm
      have HTAKE := HREL.out []
      clear HREL
      rw [hm] at hpl hpos HTAKE
      have HTAKE := Lib.hid HTAKE
      clear hm hUP hTV hVV hNM hF hP hQT HFIN HOP HOK HND HAMP HL0 HRB hqs hOP hlt hrg1 hg1 hs1 hok ho hlk HHDL HL20 HC HGR
      go_wp2_with (first
        | (go_at_call 42; go_must (refine (HTV _ (HS.out.gr HGR1.out)).out.mono ?_); rintro e w2 ⟨rfl, hg2⟩; have HG2 := Lib.hid hg2; clear hg2)
        | (go_at_call 43; go_must (refine (HSP _).out.mono ?_); rintro e w3 ⟨v3, rfl, ho3, hg3⟩; obtain ⟨b3, c3, rfl, hs1, hs2, hs3, hs4⟩ := ho3.row (by rw [HM.out]; exact hpos); rw [HM.out] at ho3 hs1 ⊢; have HO3 := Lib.hid ho3; have HG3 := Lib.hid (HG2.out.trans hg3); have hc3 : c3 ≤ 9223372036854775807 := (by simp only [maxLen] at hs2; omega); clear ho3 hg3 hs2 hs3 hs4))
      have HGW := Lib.hid (HGR1.out.trans HG3.out)
      clear HTV HSP HG2 HGR1 hs1
      go_loopw [13, 51] (fun s i wr' => ∃ k : Nat, i = .int .i64 k ∧ k ≤ m ∧ (∃ RB', s = .string RB' ∧ Hid (RB' = bs (QT ++ ampL ((P.take k).map F)))) ∧ Hid (Gr w3 wr')) (fun _ i _ => ((m : Int) - intOf i).toNat)
      case atStart => exact ⟨0, rfl, Nat.zero_le _, ⟨RB, rfl, (by show _ = _; rw [HQTB.out]; simp [ampL])⟩, Gr.refl _⟩
      case round =>
        obtain ⟨k, rfl, hk, ⟨RB', rfl, HRB'⟩, HGR'⟩ := hrel
        by_cases e : k < m
        · have hkl : k < P.length := by rw [HM.out]; exact e
          have hmem := List.getElem_mem hkl
          have HTP1 := HTP _ hmem
          have HQE1 := HQE _ hmem
          have cp := HGR'.out.cell (HO3.out.cell k hkl)
          have htk : ampL ((P.take (k + 1)).map F) = ampL ((P.take k).map F) ++ (F P[k] ++ [38]) := by rw [List.take_succ_eq_append_getElem hkl, List.map_append, ampL_append]; simp [ampL]
          have hrb : RB'.size ≤ 7310000 := by
            have h1 := HAL k
            have h1 := h1.out
            have h2 := HQT7.out
            rw [HRB'.out, bs_size, List.length_append]
            omega
          have hf := HF.out P[k]
          have hpp := HPL.out _ hmem
          have htl := trimB_len P[k]
          have heq : (bs (escQ (trimB P[k]))).size ≤ 900 := by rw [bs_size, escQ_len]; have := hxQ_le (trimB P[k]); omega
          have htp : (bs (trimB P[k])).size ≤ 300 := by rw [bs_size]; omega
          have HGV := Lib.hid (HGW.out.trans HGR'.out)
          have HTK := Lib.hid htk
          generalize P[k] = p at *
          have HFP := Lib.hid hf
          obtain ⟨PP, hPP⟩ : ∃ PP, bs p = PP := ⟨_, rfl⟩
          rw [hPP] at HTP1 cp
          have z61 : (⟨#[61]⟩ : ByteArray).size = 1 := rfl
          have z38 : (⟨#[38]⟩ : ByteArray).size = 1 := rfl
          clear hmem hkl htk hf hpp htl hPP
          cases qs
          · have hnew : RB' ++ (((NM ++ ⟨#[61]⟩) ++ bs (escQ (trimB p))) ++ ⟨#[38]⟩) = bs (QT ++ ampL ((P.take (k + 1)).map F)) := by
              rw [HTK.out, HFP.out, ← HNM.out, HRB'.out, show (⟨#[61]⟩ : ByteArray) = bs [61] from rfl, show (⟨#[38]⟩ : ByteArray) = bs [38] from rfl]
              simp only [bs_append]
              simp
            have HNEW := Lib.hid hnew
            obtain ⟨EQ, hEQ⟩ : ∃ EQ, bs (escQ (trimB p)) = EQ := ⟨_, rfl⟩
            rw [hEQ] at HQE1 heq HNEW
            obtain ⟨PT, hPT⟩ : ∃ PT, bs (trimB p) = PT := ⟨_, rfl⟩
            rw [hPT] at HTP1 HQE1 htp
            have y1 : NM.size + (⟨#[61]⟩ : ByteArray).size ≤ 9223372036854775807 := by rw [z61]; omega
            have y2 : (NM ++ (⟨#[61]⟩ : ByteArray)).size + EQ.size ≤ 9223372036854775807 := by simp only [ByteArray.size_append, z61]; omega
            have y3 : (NM ++ (⟨#[61]⟩ : ByteArray) ++ EQ).size + (⟨#[38]⟩ : ByteArray).size ≤ 9223372036854775807 := by simp only [ByteArray.size_append, z61, z38]; omega
            have y4 : RB'.size + (NM ++ (⟨#[61]⟩ : ByteArray) ++ EQ ++ (⟨#[38]⟩ : ByteArray)).size ≤ 9223372036854775807 := by simp only [ByteArray.size_append, z61, z38]; omega
            clear hnew hEQ hPT z61 z38 heq htp hrb
            go_wp2_with (first
              | (go_at_call 42; go_must (refine (HTP1 _ (HS.out.gr HGV.out)).out.mono ?_); rintro e w5 ⟨rfl, hg5⟩; have HG5 := Lib.hid hg5; clear hg5)
              | (go_at_call 44; go_must (refine (HUP _).out.mono ?_); rintro e w6 ⟨rfl, hg6⟩; have HG6 := Lib.hid (HG5.out.trans hg6); clear hg6)
              | (go_at_call 45; go_must (refine (HQE1 _ (HU.out.gr (HGV.out.trans HG6.out))).out.mono ?_); rintro e w7 ⟨rfl, hg7⟩; have HG7 := Lib.hid (HG6.out.trans hg7); clear hg7))
            go_roundw
            case rel => exact ⟨k + 1, by go_num, by omega, ⟨_, rfl, HNEW⟩, HGR'.out.trans HG7.out⟩
            case measure => simp [intOf]; omega
          · have hnew : RB' ++ (((NM ++ ⟨#[61]⟩) ++ bs (trimB p)) ++ ⟨#[38]⟩) = bs (QT ++ ampL ((P.take (k + 1)).map F)) := by
              rw [HTK.out, HFP.out, ← HNM.out, HRB'.out, show (⟨#[61]⟩ : ByteArray) = bs [61] from rfl, show (⟨#[38]⟩ : ByteArray) = bs [38] from rfl]
              simp only [bs_append]
              simp
            have HNEW := Lib.hid hnew
            obtain ⟨PT, hPT⟩ : ∃ PT, bs (trimB p) = PT := ⟨_, rfl⟩
            rw [hPT] at HTP1 htp HNEW
            have y1 : NM.size + (⟨#[61]⟩ : ByteArray).size ≤ 9223372036854775807 := by rw [z61]; omega
            have y2 : (NM ++ (⟨#[61]⟩ : ByteArray)).size + PT.size ≤ 9223372036854775807 := by simp only [ByteArray.size_append, z61]; omega
            have y3 : (NM ++ (⟨#[61]⟩ : ByteArray) ++ PT).size + (⟨#[38]⟩ : ByteArray).size ≤ 9223372036854775807 := by simp only [ByteArray.size_append, z61, z38]; omega
            have y4 : RB'.size + (NM ++ (⟨#[61]⟩ : ByteArray) ++ PT ++ (⟨#[38]⟩ : ByteArray)).size ≤ 9223372036854775807 := by simp only [ByteArray.size_append, z61, z38]; omega
            clear hnew hPT z61 z38 heq htp hrb HQE1
            go_wp2_with (first
              | (go_at_call 42; go_must (refine (HTP1 _ (HS.out.gr HGV.out)).out.mono ?_); rintro e w5 ⟨rfl, hg5⟩; have HG5 := Lib.hid hg5; clear hg5)
              | (go_at_call 44; go_must (refine (HUP _).out.mono ?_); rintro e w6 ⟨rfl, hg6⟩; have HG6 := Lib.hid (HG5.out.trans hg6); clear hg6))
            go_roundw
            case rel => exact ⟨k + 1, by go_num, by omega, ⟨_, rfl, HNEW⟩, HGR'.out.trans HG6.out⟩
            case measure => simp [intOf]; omega
        · obtain rfl : k = m := by omega
          have HGE := Lib.hid ((HGW.out).trans HGR'.out)
          have HRE := Lib.hid (ranges_gr (ranges_gr HRG1.out HG3.out) HGR'.out)
          have HNW : Hid (RB' = bs ((HD ++ [63]) ++ ampL (optsL (done ++ [o])))) := Lib.hid (by rw [HTAKE.out]; exact HRB'.out)
          clear HRB'
          go_wp2
          go_roundw
          case rel => exact ⟨done ++ [o], _, _, HRE, HC1, HGE, RB', rfl, HNW⟩
          case measure => rw [HRE.out.left_eq, HRG0'.out.left_eq]; exact HLT.out
end Go.Proofs.YtpadpdmidiaeoaaGreatDoor
