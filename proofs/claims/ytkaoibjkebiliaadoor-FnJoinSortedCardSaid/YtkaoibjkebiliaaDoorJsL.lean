/- FnJoinSorted: the walk of the law. -/
import Derived.Test.YtkaoibjkebiliaaDoorJsH
import Derived.Test.YtkaoibjkebiliaaDoorNmG
import Derived.Sort.LotA
namespace Go.Proofs.YtkaoibjkebiliaaDoor
open Go Go.RowKit Go.Sort

theorem ltJ_iff (x y : Jr) : ltJ x y = decide (x.id < y.id) := by
  unfold ltJ sgn
  by_cases h : x.id < y.id
  · simp [h]
  · by_cases h2 : y.id < x.id <;> simp [h, h2]
theorem swoJ : SWO ltJ := ⟨fun x => by rw [ltJ_iff]; simp, fun x y z h1 h2 => by rw [ltJ_iff] at *; simp at *; omega, fun x y z h1 h2 => by rw [ltJ_iff] at *; simp at *; omega⟩
theorem permJ (D : Array Jr) : (insertionSort ltJ D 0 D.size).size = D.size ∧ (insertionSort ltJ D 0 D.size).toList.Perm D.toList := by
  obtain ⟨h1, _, h3⟩ := (insertionSort_holds (lt := ltJ) swoJ D 0 D.size (Nat.zero_le _) (Nat.le_refl _)).1
  refine ⟨h1, ?_⟩
  have ex : ∀ (A : Array Jr) (n : Nat), A.size = n → A.extract 0 n = A := by rintro A _ rfl; simp
  rw [ex _ _ h1, ex _ _ rfl] at h3
  exact h3
theorem all_bang {D : Array Jr} {P : Jr → Prop} : (∀ i, i < D.size → P D[i]!) ↔ ∀ x ∈ D.toList, P x := by
  constructor
  · intro h x hx
    obtain ⟨i, hi, rfl⟩ := List.mem_iff_getElem.1 hx
    have hi' : i < D.size := by simpa using hi
    have := h i hi'
    rw [getElem!_pos D i hi'] at this
    simpa using this
  · intro h i hi
    rw [getElem!_pos D i hi]
    exact h _ (by simp)

theorem SlJ.gr {a w : World} {v : Value} {D : Array Jr} (h : SlJ a v D) (g : Gr a w) : SlJ w v D := by
  obtain ⟨p, c, rfl, h1, h2, h3⟩ := h
  refine ⟨p, c, rfl, h1, h2, fun hn => ?_⟩
  obtain ⟨b, rfl, hr⟩ := h3 hn
  exact ⟨b, rfl, hr.gr g⟩

/-- One of the two sorts. -/
theorem sortJ (g : FuncId) (p : Option Addr) (c : Nat) (D : Array Jr) (w0 w : World) (hg0 : Gr w0 w) (eg : ∀ args w, (callFunc g args).run Tryd.prog w = .ok (.enter g args) w) (hs : SlJ w (.slice p D.size c) D) (hb : ∀ b, p = some ⟨b, 0, none⟩ → 0 < D.size → w0.heap.size ≤ b)
    (hd : ∀ x ∈ D.toList, okJ x) (h12 : D.size ≤ 12) (hcmp : ∀ x y W, okJ x → okJ y → Gr w0 W → Calls Tryd.prog g #[x.val, y.val] W fun e w' => e = .returned (.int .i64 (sgn x.id y.id)) ∧ Gr W w') :
    Calls Tryd.prog 9 #[.slice p D.size c, .func (.func g) #[] #[]] w fun e w' => e = .returned (.tuple #[]) ∧
      (Gr w0 w' ∧ SlJ w' (.slice p D.size c) (insertionSort ltJ D 0 D.size) ∧ ∀ b' E, 0 < D.size → p ≠ some ⟨b', 0, none⟩ → RowJ w b' 0 E → RowJ w' b' 0 E) := by
  obtain ⟨p', c', e, hc1, hc2, hrow⟩ := hs
  injection e with e1 e2 e3
  subst e1 e3
  have hc3 : c ≤ 9223372036854775807 := by simp only [maxLen] at hc2; omega
  refine sortOf g p D.size c w (fun w' => Gr w0 w' ∧ SlJ w' (.slice p D.size c) (insertionSort ltJ D 0 D.size) ∧ ∀ b' E, 0 < D.size → p ≠ some ⟨b', 0, none⟩ → RowJ w b' 0 E → RowJ w' b' 0 E) h12 hc1 hc3 ?_
  obtain ⟨hsz, _⟩ := permJ D
  by_cases hn : 0 < D.size
  · obtain ⟨b, rfl, hr⟩ := hrow hn
    have hbb := hb b rfl hn
    refine (insertion g b 0 c D w eg (all_bang.2 hd) h12 hc1 hc2 (fun x y W hx hy hf => hcmp x y W hx hy (hf.gr hg0 hbb)) hr).mono fun e w' h => ?_
    obtain ⟨he, hf, hr'⟩ := h
    refine ⟨he, hf.gr hg0 hbb, ⟨_, c, by rw [hsz], by rw [hsz]; exact hc1, hc2, fun _ => ⟨b, rfl, hr'⟩⟩, fun b' E _ hne hr2 => hr2.fx hf (fun e => hne (by rw [e]))⟩
  · have h0 : D.size = 0 := by omega
    have hs0 : (insertionSort ltJ D 0 D.size).size = 0 := by rw [hsz, h0]
    rw [h0] at hc1 ⊢
    refine (insertion0 g p c w).mono ?_
    rintro e w' ⟨rfl, rfl⟩
    rw [h0] at hs0
    exact ⟨rfl, hg0, ⟨p, c, by rw [hs0], by omega, hc2, fun h => by omega⟩, fun b' E h => by omega⟩

set_option maxRecDepth 100000 in
set_option maxHeartbeats 1000000 in
theorem lawJoinSorted (v : Value) (l : List Jr) (w : World) (h : RdJ w v l) (hnum : ∀ x ∈ l, x.num) (ht : Tab10 w) (ht8 : Tab8 w) :
    Calls Tryd.prog 3 #[v] w fun e w' => e = .returned (.bool true) ∧ Gr w w' := by
  have HF := Lib.hid (zfits7 v l w h)
  have HRD := Lib.hid h
  have HT := Lib.hid ht
  have HT8 := Lib.hid ht8
  have HAW := fun W (g : Gr w W) => Lib.hid (awake W (HT.out.gr g))
  have hsh : ∀ x ∈ l, x.sh := by
    intro x hx
    obtain ⟨i, hi, rfl⟩ := List.mem_iff_getElem.1 hx
    obtain ⟨_, _, _, _, _, hc⟩ := h
    obtain ⟨b, o, _, hat⟩ := hc (by omega)
    obtain ⟨p, c, e, _⟩ := (hat i hi).note
    exact ⟨p, _, c, e⟩
  have hnote : ∀ x ∈ l, Rd w x.nv x.no := by
    intro x hx
    obtain ⟨i, hi, rfl⟩ := List.mem_iff_getElem.1 hx
    obtain ⟨_, _, _, _, _, hc⟩ := h
    obtain ⟨b, o, _, hat⟩ := hc (by omega)
    exact (hat i hi).note
  obtain ⟨p, c, rfl, hlc, hcm, hcc⟩ := h
  clear ht ht8 hcc
  by_cases hf : (decide (l.length ≤ 2147483647) && l.all Jr.fit) = true
  rotate_left
  · rw [Bool.not_eq_true] at hf
    rw [hf] at HF
    clear hf hnum hsh hnote HRD
    generalize l.length = n at *
    go_enter Tryd.func3, Tryd.ntmps3
    go_wp2_with (first
      | (go_at_call 5; go_must (refine HF.out.mono ?_); rintro e w1 ⟨rfl, hg1⟩))
    go_ret
    exact ⟨rfl, hg1⟩
  have hfit : ∀ x ∈ l, x.fit = true := by
    rw [Bool.and_eq_true] at hf
    exact List.all_eq_true.1 hf.2
  rw [hf] at HF
  clear hf
  have HFW := fun W (g : Gr w W) => Lib.hid (joinFew (.slice p l.length c) l W (HRD.out.gr g) hfit (HT8.out.gr g))
  clear hfit
  by_cases hq : (l.all Jr.few && decide ((l.length : Int) ≤ 12)) = true
  rotate_left
  · rw [Bool.not_eq_true] at hq
    rw [hq] at HFW
    clear hq hnum hsh hnote HRD
    generalize l.length = n at *
    go_enter Tryd.func3, Tryd.ntmps3
    go_wp2_with (first
      | (go_at_call 5; go_must (refine HF.out.mono ?_); rintro e w1 ⟨rfl, hg1⟩)
      | (go_at_call 6; go_must (refine (HFW _ hg1).out.mono ?_); rintro e w2 ⟨rfl, hg2⟩)
      | (go_at_call 7; go_must (refine (HAW _ (hg1.trans hg2)).out.mono ?_); rintro e w3 ⟨rfl, hg3⟩))
    go_ret
    exact ⟨rfl, (hg1.trans hg2).trans hg3⟩
  have h12 : l.length ≤ 12 := by
    rw [Bool.and_eq_true, decide_eq_true_eq] at hq
    omega
  rw [hq] at HFW
  clear hq
  have HCL := fun W (g : Gr w W) => Lib.hid (cloneJ (.slice p l.length c) l W (HRD.out.gr g) hsh h12)
  have hok : ∀ x ∈ l.toArray.toList, okJ x := fun x hx => ⟨hnum x (by simpa using hx), hsh x (by simpa using hx)⟩
  have hsz : l.toArray.size = l.length := by simp
  obtain ⟨psz, perm⟩ := permJ l.toArray
  have hnote2 : ∀ W, Gr w W → ∀ i, i < (insertionSort ltJ l.toArray 0 l.toArray.size).size → Rd W (insertionSort ltJ l.toArray 0 l.toArray.size)[i]!.nv (insertionSort ltJ l.toArray 0 l.toArray.size)[i]!.no := by
    intro W g
    refine (all_bang (P := fun x => Rd W x.nv x.no)).2 fun x hx => ?_
    have : x ∈ l := by simpa using perm.mem_iff.1 hx
    exact (hnote x this).gr g
  have HS1 := fun (p : Option Addr) (c : Nat) w1 (hg0 : Gr w w1) (hs : SlJ w1 (.slice p l.length c) l.toArray) (hb : ∀ b, p = some ⟨b, 0, none⟩ → 0 < l.length → w.heap.size ≤ b) => Lib.hid (sortJ 10 p c l.toArray w w1 hg0 (fun _ _ => enters_of Tryd.func10 (by kernel_rfl) rfl _ _) (by rw [hsz]; exact hs) (by rw [hsz]; exact hb) hok (by rw [hsz]; exact h12) (fun x y W hx hy g => cmpOne x y hx.1 hy.1 hx.2 hy.2 W (HT.out.gr g)))
  have HS2 := fun (p : Option Addr) (c : Nat) w1 (hg0 : Gr w w1) (hs : SlJ w1 (.slice p l.length c) l.toArray) (hb : ∀ b, p = some ⟨b, 0, none⟩ → 0 < l.length → w.heap.size ≤ b) => Lib.hid (sortJ 13 p c l.toArray w w1 hg0 (fun _ _ => enters_of Tryd.func13 (by kernel_rfl) rfl _ _) (by rw [hsz]; exact hs) (by rw [hsz]; exact hb) hok (by rw [hsz]; exact h12) (fun x y W hx hy g => cmpTwo x y hx.2 hy.2 W))
  simp only [hsz] at HS1 HS2 hnote2 psz
  have HSM := fun v u W (g : Gr w W) h k => Lib.hid (joinSame v u (insertionSort ltJ l.toArray 0 l.length) W h k (hnote2 W g))
  clear hnote2 hnote perm hok hnum hsh psz
  generalize insertionSort ltJ l.toArray 0 l.length = S at *
  have HSZ := Lib.hid hsz
  have HL12 := Lib.hid h12
  obtain ⟨n, hn⟩ : ∃ n, l.length = n := ⟨_, rfl⟩
  obtain ⟨D, hD⟩ : ∃ D, l.toArray = D := ⟨_, rfl⟩
  simp only [RetClJ, hn, hD] at HCL HS1 HS2 HF HFW hsz
  rw [hn]
  clear HRD hlc h12
  go_enter Tryd.func3, Tryd.ntmps3
  go_wp2_with (first
    | (go_at_call 5; go_must (refine HF.out.mono ?_); rintro e w1 ⟨rfl, hg1⟩; clear HF)
    | (go_at_call 6; go_must (refine (HFW _ hg1).out.mono ?_); rintro e w2 ⟨rfl, hg2⟩; have HG2 := Lib.hid (hg1.trans hg2); clear hg1 hg2 HFW)
    | (go_at_call 8; have _t := HG2; refine (HCL _ HG2.out).out.mono ?_; rintro e w3 ⟨p1, c1, rfl, hc11, hc12, hr1, hg3⟩; have HG3 := Lib.hid (HG2.out.trans hg3); have HC11 := Lib.hid hc11; have HC12 := Lib.hid hc12; have HR1 := Lib.hid hr1; have HS3 := Lib.hid HG2.out.size; clear hc11 hc12 hr1 hg3 HG2 _t)
    | (go_at_call 8; have _t := HG3; refine (HCL _ HG3.out).out.mono ?_; rintro e w4 ⟨p2, c2, rfl, hc21, hc22, hr2, hg4⟩; have HG4 := Lib.hid (HG3.out.trans hg4); have HC21 := Lib.hid hc21; have HC22 := Lib.hid hc22; have HR2 := Lib.hid hr2; have HS4 := Lib.hid HG3.out.size; have HGG := Lib.hid hg4; clear hc21 hc22 hr2 hg4 HG3 _t))
  rw [hn, hD] at HR1 HR2
  rw [hn] at HC11 HC21
  have NE : Hid (0 < n → ∃ b1 b2, p1 = some ⟨b1, 0, none⟩ ∧ p2 = some ⟨b2, 0, none⟩ ∧ b1 ≠ b2 ∧ w.heap.size ≤ b1 ∧ w.heap.size ≤ b2) := fun h0 => by
    obtain ⟨b1, e1, k1, r1⟩ := HR1.out h0
    obtain ⟨b2, e2, k2, r2⟩ := HR2.out h0
    have := r1.lt
    exact ⟨b1, b2, e1, e2, by omega, Nat.le_trans HS3.out k1, Nat.le_trans HS4.out k2⟩
  have S1 : Hid (SlJ w4 (.slice p1 n c1) D) := ⟨p1, c1, by rw [hsz], by rw [hsz]; exact HC11.out, HC12.out, fun h0 => by
    obtain ⟨b1, e1, _, r1⟩ := HR1.out (by omega)
    exact ⟨b1, e1, r1.gr HGG.out⟩⟩
  have S2 : Hid (SlJ w4 (.slice p2 n c2) D) := ⟨p2, c2, by rw [hsz], by rw [hsz]; exact HC21.out, HC22.out, fun h0 => by
    obtain ⟨b2, e2, _, r2⟩ := HR2.out (by omega)
    exact ⟨b2, e2, r2⟩⟩
  have K1 : Hid (∀ w5, (∀ (b' : Nat) (E : Array Jr), 0 < n → p1 ≠ some ⟨b', 0, none⟩ → RowJ w4 b' 0 E → RowJ w5 b' 0 E) → SlJ w5 (.slice p2 n c2) D) := fun w5 hk => by
    obtain ⟨q, cq, e, h1, h2, h3⟩ := S2.out
    refine ⟨q, cq, e, h1, h2, fun h0 => ?_⟩
    obtain ⟨b, rfl, hr⟩ := h3 h0
    injection e with e1 e2 e3
    obtain ⟨b1, b2, ea, eb, hne, _⟩ := NE.out (by omega)
    rw [eb] at e1
    injection e1 with e1
    injection e1 with e1
    exact ⟨b, rfl, hk b D (by omega) (by rw [ea]; intro e; injection e with e; injection e with e; omega) hr⟩
  have K2 : Hid (∀ w5 w6, SlJ w5 (.slice p1 n c1) S → (∀ (b' : Nat) (E : Array Jr), 0 < n → p2 ≠ some ⟨b', 0, none⟩ → RowJ w5 b' 0 E → RowJ w6 b' 0 E) → SlJ w6 (.slice p1 n c1) S) := fun w5 w6 hs hk => by
    obtain ⟨q, cq, e, h1, h2, h3⟩ := hs
    refine ⟨q, cq, e, h1, h2, fun h0 => ?_⟩
    obtain ⟨b, rfl, hr⟩ := h3 h0
    injection e with e1 e2 e3
    obtain ⟨b1, b2, ea, eb, hne, _⟩ := NE.out (by omega)
    rw [ea] at e1
    injection e1 with e1
    injection e1 with e1
    exact ⟨b, rfl, hk b S (by omega) (by rw [eb]; intro e; injection e with e; injection e with e; omega) hr⟩
  have HB1 : Hid (∀ b, p1 = some ⟨b, 0, none⟩ → 0 < n → w.heap.size ≤ b) := fun b e h0 => by
    obtain ⟨b1, b2, ea, _, _, hb, _⟩ := NE.out h0
    rw [ea] at e; injection e with e; injection e with e; omega
  have HB2 : Hid (∀ b, p2 = some ⟨b, 0, none⟩ → 0 < n → w.heap.size ≤ b) := fun b e h0 => by
    obtain ⟨b1, b2, _, eb, _, _, hb⟩ := NE.out h0
    rw [eb] at e; injection e with e; injection e with e; omega
  clear HCL HR1 HR2 hn hD hsz HC11 HC12 HC21 HC22 HS3 HS4 HGG
  refine (HS1 p1 c1 w4 HG4.out S1.out HB1.out).out.mono ?_
  rintro e w5 ⟨rfl, hg5, hs5, hk5⟩
  have T2 : Hid (SlJ w5 (.slice p2 n c2) D) := K1.out w5 hk5
  have HG5 := Lib.hid hg5
  have T1 := Lib.hid hs5
  clear hg5 hs5 hk5 HS1 S1 S2 K1
  go_wp2_with (first
    | (go_at_call 9; go_must (refine (HS2 p2 c2 w5 HG5.out T2.out HB2.out).out.mono ?_); rintro e w6 ⟨rfl, hg6, hs6, hk6⟩; have U1 : Hid (SlJ w6 (.slice p1 n c1) S) := K2.out w5 w6 T1.out hk6; have HG6 := Lib.hid hg6; have U2 := Lib.hid hs6; clear hg6 hs6 hk6)
    | (go_at_call 14; go_must (refine (HSM _ _ w6 HG6.out U1.out U2.out).out.mono ?_); rintro e w7 ⟨rfl, hg7⟩; have HG7 := Lib.hid (HG6.out.trans hg7); clear hg7)
    | (go_at_call 7; go_must (refine (HAW _ HG7.out).out.mono ?_); rintro e w8 ⟨rfl, hg8⟩))
  go_ret
  exact ⟨rfl, HG7.out.trans hg8⟩
end Go.Proofs.YtkaoibjkebiliaaDoor
