/- FnPacketAccept: the law as a whole, and its argument opened. -/
import Derived.Test.YtoaajnhbcekglaaDoorPkAg
import Derived.Test.YtoaajnhbcekglaaDoorPkOpen
import Derived.Test.YtoaajnhbcekglaaDoorOpenB
namespace Go.Proofs.YtoaajnhbcekglaaDoor
open Go Go.RowKit Go.ChangeShapes Go.WideShapes Go.ChangeAt Go.Joins Go.Deep

theorem law_accept (V0 TY FL O V8 V10 V16 A0 A1 S T : Int) (AD : ByteArray) (v : Value) (ys : List Int) (w : World) (hd : Rd w v ys)
    (h0 : 0 ≤ V0 ∧ V0 ≤ 4294967295) (hfl : 0 ≤ FL ∧ FL ≤ 255) (h8 : 0 ≤ V8 ∧ V8 ≤ 65535) (h10 : 0 ≤ V10 ∧ V10 ≤ 65535) (h16 : 0 ≤ V16 ∧ V16 ≤ 65535) (ha0 : 0 ≤ A0 ∧ A0 ≤ 255) (ha1 : 0 ≤ A1 ∧ A1 ≤ 255)
    (hS : 0 ≤ S ∧ S ≤ 4294967295) (hT : 0 ≤ T ∧ T ≤ 4294967295) :
    Calls Tryd.prog 8 #[accZ V0 TY FL O V8 V10 V16 A0 A1 S T AD v] w fun e w' => e = .returned (.bool true) ∧ Gr w w' := by
  have hd' := hd
  obtain ⟨p, c, rfl, _⟩ := hd'
  obtain ⟨n, hn⟩ : ∃ n, ys.length = n := ⟨_, rfl⟩
  rw [hn] at hd ⊢
  by_cases hf : AD.size ≤ 2147483647 ∧ n ≤ 2147483647
  · by_cases h2 : 2000 < n
    · exact law_accept_long V0 TY FL O V8 V10 V16 A0 A1 S T AD p n c w hf h2
    · obtain ⟨f1, f2⟩ := and_u8 FL hfl.1 (by omega)
      have m0 := and_u32 V0 h0.1 (by omega)
      have mS := and_u32 S hS.1 (by omega)
      have mT := and_u32 T hT.1 (by omega)
      by_cases hv : 315 ≤ V8
      · exact law_accept_main V0 TY FL O V8 V10 V16 A0 A1 S T _ _ S T AD p n c ys w hd hn hf.1 (by omega) (by rw [m0]; omega) f1 (by omega) (by omega) (by omega) (by omega) (by omega) (by omega) (by omega) rfl rfl f2 (.inl ⟨hv, rfl, rfl⟩)
      · exact law_accept_main V0 TY FL O V8 V10 V16 A0 A1 S T _ _ (S % 65536) (T % 65536) AD p n c ys w hd hn hf.1 (by omega) (by rw [m0]; omega) f1 (by omega) (by omega) (by omega) (by omega) (by omega) (by omega) (by omega) rfl rfl f2 (.inr ⟨by omega, mS, mT, by omega, by omega⟩)
  · exact law_accept_unfit V0 TY FL O V8 V10 V16 A0 A1 S T AD p n c w hf

theorem array13 {α : Type} {cs : Array α} (h : cs.size = 13) : ∃ c0 c1 c2 c3 c4 c5 c6 c7 c8 c9 ca cb cc, cs = #[c0, c1, c2, c3, c4, c5, c6, c7, c8, c9, ca, cb, cc] := by
  obtain ⟨l⟩ := cs
  match l, h with
  | [c0, c1, c2, c3, c4, c5, c6, c7, c8, c9, ca, cb, cc], _ => exact ⟨c0, c1, c2, c3, c4, c5, c6, c7, c8, c9, ca, cb, cc, rfl⟩

set_option maxRecDepth 100000 in
theorem open_acc {H : Type} {enc : TypeId × Value → H} {w : World} {base : Nat} {spare : Nat → Bool} {held : Bool} {r : Reach} {b0 : Nat} {v : Value} {d : DataW H} {p : List MemPlace}
    (hv : Value.okWide Tryd.prog w r b0 48 v) (h : DataW.Trod enc Tryd.prog w base spare held 48 v d p) :
    ∃ (V0 TY FL O V8 V10 V16 A0 A1 S T : Int) (AD : ByteArray) (u : Value) (ys : List Int), v = accZ V0 TY FL O V8 V10 V16 A0 A1 S T AD u ∧ Rd w u ys ∧ (0 ≤ V0 ∧ V0 ≤ 4294967295) ∧ (0 ≤ FL ∧ FL ≤ 255) ∧ (0 ≤ V8 ∧ V8 ≤ 65535) ∧ (0 ≤ V10 ∧ V10 ≤ 65535) ∧ (0 ≤ V16 ∧ V16 ≤ 65535) ∧
      (0 ≤ A0 ∧ A0 ≤ 255) ∧ (0 ≤ A1 ∧ A1 ≤ 255) ∧ (0 ≤ S ∧ S ≤ 4294967295) ∧ (0 ≤ T ∧ T ≤ 4294967295) := by
  obtain ⟨cs, rfl, hsz⟩ := okWide_struct Tryd.underlying48 hv
  have hsz : cs.size = 13 := hsz.trans (by kernel_rfl)
  obtain ⟨c0, c1, c2, c3, c4, c5, c6, c7, c8, c9, ca, cb, cc, rfl⟩ := array13 hsz
  obtain ⟨fuel, hf⟩ := h
  obtain ⟨xs, n, _, hx, _, hlen, hg⟩ := DataW.trod_struct Tryd.underlying48 hf
  have hlen : xs.length = 10 := hlen
  have k_head : Tryd.prog.cellsOf 27 = 4 := by kernel_rfl
  have k_u16 : Tryd.prog.cellsOf 22 = 1 := by kernel_rfl
  have k_u8 : Tryd.prog.cellsOf 5 = 1 := by kernel_rfl
  have k_u32 : Tryd.prog.cellsOf 23 = 1 := by kernel_rfl
  have k_s : Tryd.prog.cellsOf 9 = 1 := by kernel_rfl
  have k_b : Tryd.prog.cellsOf 30 = 1 := by kernel_rfl
  have q0 : ∃ y, DataW.trod enc Tryd.prog w base spare held n 27 [c0, c1, c2, c3] = some y := by
    have h := hg 0 _ rfl
    change DataW.trod enc Tryd.prog w base spare held n 27 (List.take (Tryd.prog.cellsOf 27) _) = _ at h
    rw [k_head] at h
    exact ⟨_, h.trans (List.getElem?_eq_getElem (l := xs) (i := 0) (by omega))⟩
  have q1 : ∃ y, DataW.trod enc Tryd.prog w base spare held n 22 [c4] = some y := by
    have h := hg 1 _ rfl
    change DataW.trod enc Tryd.prog w base spare held n 22 (List.take (Tryd.prog.cellsOf 22) _) = _ at h
    rw [k_u16] at h
    exact ⟨_, h.trans (List.getElem?_eq_getElem (l := xs) (i := 1) (by omega))⟩
  have q2 : ∃ y, DataW.trod enc Tryd.prog w base spare held n 22 [c5] = some y := by
    have h := hg 2 _ rfl
    change DataW.trod enc Tryd.prog w base spare held n 22 (List.take (Tryd.prog.cellsOf 22) _) = _ at h
    rw [k_u16] at h
    exact ⟨_, h.trans (List.getElem?_eq_getElem (l := xs) (i := 2) (by omega))⟩
  have q3 : ∃ y, DataW.trod enc Tryd.prog w base spare held n 22 [c6] = some y := by
    have h := hg 3 _ rfl
    change DataW.trod enc Tryd.prog w base spare held n 22 (List.take (Tryd.prog.cellsOf 22) _) = _ at h
    rw [k_u16] at h
    exact ⟨_, h.trans (List.getElem?_eq_getElem (l := xs) (i := 3) (by omega))⟩
  have q4 : ∃ y, DataW.trod enc Tryd.prog w base spare held n 5 [c7] = some y := by
    have h := hg 4 _ rfl
    change DataW.trod enc Tryd.prog w base spare held n 5 (List.take (Tryd.prog.cellsOf 5) _) = _ at h
    rw [k_u8] at h
    exact ⟨_, h.trans (List.getElem?_eq_getElem (l := xs) (i := 4) (by omega))⟩
  have q5 : ∃ y, DataW.trod enc Tryd.prog w base spare held n 5 [c8] = some y := by
    have h := hg 5 _ rfl
    change DataW.trod enc Tryd.prog w base spare held n 5 (List.take (Tryd.prog.cellsOf 5) _) = _ at h
    rw [k_u8] at h
    exact ⟨_, h.trans (List.getElem?_eq_getElem (l := xs) (i := 5) (by omega))⟩
  have q6 : ∃ y, DataW.trod enc Tryd.prog w base spare held n 23 [c9] = some y := by
    have h := hg 6 _ rfl
    change DataW.trod enc Tryd.prog w base spare held n 23 (List.take (Tryd.prog.cellsOf 23) _) = _ at h
    rw [k_u32] at h
    exact ⟨_, h.trans (List.getElem?_eq_getElem (l := xs) (i := 6) (by omega))⟩
  have q7 : ∃ y, DataW.trod enc Tryd.prog w base spare held n 23 [ca] = some y := by
    have h := hg 7 _ rfl
    change DataW.trod enc Tryd.prog w base spare held n 23 (List.take (Tryd.prog.cellsOf 23) _) = _ at h
    rw [k_u32] at h
    exact ⟨_, h.trans (List.getElem?_eq_getElem (l := xs) (i := 7) (by omega))⟩
  have q8 : ∃ y, DataW.trod enc Tryd.prog w base spare held n 9 [cb] = some y := by
    have h := hg 8 _ rfl
    change DataW.trod enc Tryd.prog w base spare held n 9 (List.take (Tryd.prog.cellsOf 9) _) = _ at h
    rw [k_s] at h
    exact ⟨_, h.trans (List.getElem?_eq_getElem (l := xs) (i := 8) (by omega))⟩
  have q9 : ∃ y, DataW.trod enc Tryd.prog w base spare held n 30 [cc] = some y := by
    have h := hg 9 _ rfl
    change DataW.trod enc Tryd.prog w base spare held n 30 (List.take (Tryd.prog.cellsOf 30) _) = _ at h
    rw [k_b] at h
    exact ⟨_, h.trans (List.getElem?_eq_getElem (l := xs) (i := 9) (by omega))⟩
  clear hg hv hf hx
  obtain ⟨y0, h0⟩ := q0
  obtain ⟨zs, m, _, _, _, hlen2, hg⟩ := DataW.trod_struct Tryd.underlying27 h0
  have hlen2 : zs.length = 4 := hlen2
  have r0 : ∃ y, DataW.trod enc Tryd.prog w base spare held m 23 [c0] = some y := by
    have h := hg 0 _ rfl
    change DataW.trod enc Tryd.prog w base spare held m 23 (List.take (Tryd.prog.cellsOf 23) _) = _ at h
    rw [k_u32] at h
    exact ⟨_, h.trans (List.getElem?_eq_getElem (l := zs) (i := 0) (by omega))⟩
  have r1 : ∃ y, DataW.trod enc Tryd.prog w base spare held m 5 [c1] = some y := by
    have h := hg 1 _ rfl
    change DataW.trod enc Tryd.prog w base spare held m 5 (List.take (Tryd.prog.cellsOf 5) _) = _ at h
    rw [k_u8] at h
    exact ⟨_, h.trans (List.getElem?_eq_getElem (l := zs) (i := 1) (by omega))⟩
  have r2 : ∃ y, DataW.trod enc Tryd.prog w base spare held m 5 [c2] = some y := by
    have h := hg 2 _ rfl
    change DataW.trod enc Tryd.prog w base spare held m 5 (List.take (Tryd.prog.cellsOf 5) _) = _ at h
    rw [k_u8] at h
    exact ⟨_, h.trans (List.getElem?_eq_getElem (l := zs) (i := 2) (by omega))⟩
  have r3 : ∃ y, DataW.trod enc Tryd.prog w base spare held m 22 [c3] = some y := by
    have h := hg 3 _ rfl
    change DataW.trod enc Tryd.prog w base spare held m 22 (List.take (Tryd.prog.cellsOf 22) _) = _ at h
    rw [k_u16] at h
    exact ⟨_, h.trans (List.getElem?_eq_getElem (l := zs) (i := 3) (by omega))⟩
  clear hg h0
  obtain ⟨_, h⟩ := r0
  obtain ⟨V0, eV0, _, wV0⟩ := DataW.trod_int Tryd.underlying23 h
  have bV0 := bounds_u32 wV0
  obtain ⟨_, h⟩ := r1
  obtain ⟨TY, eTY, _, wTY⟩ := DataW.trod_int Tryd.underlying5 h
  have bTY := bounds_u8 wTY
  obtain ⟨_, h⟩ := r2
  obtain ⟨FL, eFL, _, wFL⟩ := DataW.trod_int Tryd.underlying5 h
  have bFL := bounds_u8 wFL
  obtain ⟨_, h⟩ := r3
  obtain ⟨O, eO, _, wO⟩ := DataW.trod_int Tryd.underlying22 h
  have bO := bounds_u16 wO
  obtain ⟨_, h⟩ := q1
  obtain ⟨V8, eV8, _, wV8⟩ := DataW.trod_int Tryd.underlying22 h
  have bV8 := bounds_u16 wV8
  obtain ⟨_, h⟩ := q2
  obtain ⟨V10, eV10, _, wV10⟩ := DataW.trod_int Tryd.underlying22 h
  have bV10 := bounds_u16 wV10
  obtain ⟨_, h⟩ := q3
  obtain ⟨V16, eV16, _, wV16⟩ := DataW.trod_int Tryd.underlying22 h
  have bV16 := bounds_u16 wV16
  obtain ⟨_, h⟩ := q4
  obtain ⟨A0, eA0, _, wA0⟩ := DataW.trod_int Tryd.underlying5 h
  have bA0 := bounds_u8 wA0
  obtain ⟨_, h⟩ := q5
  obtain ⟨A1, eA1, _, wA1⟩ := DataW.trod_int Tryd.underlying5 h
  have bA1 := bounds_u8 wA1
  obtain ⟨_, h⟩ := q6
  obtain ⟨S, eS, _, wS⟩ := DataW.trod_int Tryd.underlying23 h
  have bS := bounds_u32 wS
  obtain ⟨_, h⟩ := q7
  obtain ⟨T, eT, _, wT⟩ := DataW.trod_int Tryd.underlying23 h
  have bT := bounds_u32 wT
  obtain ⟨_, h⟩ := q8
  obtain ⟨AD, eAD, _⟩ := DataW.trod_string Tryd.underlying9 h
  obtain ⟨_, h⟩ := q9
  obtain ⟨u, ys, eu, hu⟩ := open_bytes_cell h
  simp only [List.cons.injEq, and_true] at eV0 eTY eFL eO eV8 eV10 eV16 eA0 eA1 eS eT eAD eu
  subst eV0 eTY eFL eO eV8 eV10 eV16 eA0 eA1 eS eT eAD eu
  exact ⟨V0, TY, FL, O, V8, V10, V16, A0, A1, S, T, AD, _, ys, rfl, hu, bV0, bFL, bV8, bV10, bV16, bA0, bA1, bS, bT⟩
end Go.Proofs.YtoaajnhbcekglaaDoor
