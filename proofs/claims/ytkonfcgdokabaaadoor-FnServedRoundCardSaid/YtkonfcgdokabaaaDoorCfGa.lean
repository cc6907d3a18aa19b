/- (*DatabaseInfo).GetActiveServer, ResetServerIndex. -/
import Derived.Test.YtkonfcgdokabaaaDoorCfAs
namespace Go.Proofs.YtkonfcgdokabaaaDoor
open Go Go.RowKit

theorem inf_set {C I ix m : Nat} {S : List Srv} {sv : Value} {w : World} (hi : InfAt w I C ⟨S, ix⟩ sv) (hC : C ≤ I) :
    InfAt (w.setCell ⟨I, 3, none⟩ (.int .i64 (m : Nat))) I C ⟨S, m⟩ sv ∧ Fr C I sv w (w.setCell ⟨I, 3, none⟩ (.int .i64 (m : Nat))) := by
  refine ⟨⟨?_, ?_⟩, (Below.refl C w).setCell hC _, fun k o ho hk _ => ?_⟩
  · rw [heap_set_same _ hi.blk]
    rfl
  · exact hi.row.setI hi.blk (by decide) 3 _
  · rw [heap_set_other _ _ _ _ hk]
    exact ho
theorem Fr.refl (C I : Nat) (sv : Value) (w : World) : Fr C I sv w w := ⟨Below.refl _ _, fun _ _ h _ _ => h⟩
theorem Fr.gr {C I : Nat} {sv : Value} {w a b : World} (h : Fr C I sv w a) (hC : C ≤ a.heap.size) (g : Gr a b) : Fr C I sv w b := ⟨h.below.trans (Below.mono g hC), fun k o ho h1 h2 => g.heap (h.kept k o ho h1 h2)⟩
theorem InfAt.gr {C I : Nat} {i : Inf} {sv : Value} {a b : World} (h : InfAt a I C i sv) (g : Gr a b) : InfAt b I C i sv := ⟨g.heap h.blk, OwnR.gr h.row g⟩

/-- What GetActiveServer returns: no server, or the place of one. -/
def GotAt (w : World) (q : Option Addr) : Option Srv → Prop
  | none => q = none
  | some s => ∃ b k, q = some ⟨b, k, none⟩ ∧ SvAt w b k s
def RetGet (C I : Nat) (i : Inf) (sv : Value) (w : World) (e : Ending) (w' : World) : Prop := ∃ q, e = .returned (.pointer q) ∧ GotAt w' q i.S[i.ix]? ∧ InfAt w' I C i sv ∧ Fr C I sv w w'

set_option maxRecDepth 100000 in
set_option maxHeartbeats 1000000 in
theorem getActive (C I : Nat) (S : List Srv) (ix : Nat) (sv : Value) (j : Bool) (w : World) (hi : InfAt w I C ⟨S, ix⟩ sv) (hC : C ≤ I) (hix : ix ≤ 1000) :
    Calls Tryd.prog 33 #[.pointer (some ⟨I, 0, none⟩), .bool j] w (RetGet C I ⟨S, if j then ix + 1 else ix⟩ sv w) := by
  have hI := lt_of_some hi.blk
  obtain ⟨n, hn⟩ : ∃ n, S.length = n := ⟨_, rfl⟩
  obtain ⟨p, c, rfl, hlc, hcm, _⟩ := hi.row.shape
  simp only [List.length_map] at hlc hi ⊢
  rw [hn] at hlc hi ⊢
  have hcm2 : c ≤ 9223372036854775807 := by simp only [maxLen] at hcm; omega
  have HIN := Lib.hid hi
  have HN := Lib.hid hn
  have i2 := blk_cell hi.blk 2
  have i3 := blk_cell hi.blk 3
  have f3 := blk_free hi.blk 3
  simp [infoC] at i2 i3
  obtain ⟨m, hm⟩ : ∃ m, (if j = true then ix + 1 else ix) = m := ⟨_, rfl⟩
  rw [hm]
  have hfr : ∀ W : World, (j = true → W = (w.setCell ⟨I, 3, none⟩ (.int .i64 (m : Nat)))) → (j = false → W = w) → InfAt W I C ⟨S, m⟩ (.slice p n c) ∧ Fr C I (.slice p n c) w W := by
    intro W h1 h2
    cases j
    · obtain rfl := h2 rfl
      simp at hm
      subst hm
      exact ⟨hi, Fr.refl _ _ _ _⟩
    · obtain rfl := h1 rfl
      exact inf_set hi hC
  have hmj : m ≤ 1001 := by cases j <;> simp at hm <;> omega
  have hiw : j = true → IntKind.i64.wrap ((ix : Int) + 1) = (m : Int) := by intro hj; subst hj; simp at hm; rw [IntWalk.i64_in _ (by omega)]; omega
  have him : j = false → ix = m := by intro hj; subst hj; simpa using hm
  have HFR := Lib.hid hfr
  clear hi hn hfr hm
  have fin : ∀ W : World, InfAt W I C ⟨S, m⟩ (.slice p n c) → m < n → ∃ b, p = some ⟨b, 0, none⟩ ∧ ∃ s, S[m]? = some s ∧ SvAt W b (m * 3) s := by
    intro W hW hmn
    have hml : m < S.length := by rw [HN.out]; exact hmn
    obtain ⟨b, cap, hsv, _, _, _, _, hat⟩ := hW.row.at' (by rw [List.length_map]; simpa using (by omega : 0 < S.length))
    simp only [Value.slice.injEq] at hsv
    have hsj : (S.map Srv.cs)[m]? = some (Srv.cs S[m]) := by simp [hml]
    exact ⟨b, hsv.1, S[m], by simp [hml], ⟨hat m 0 _ _ hsj rfl, hat m 1 _ _ hsj rfl, hat m 2 _ _ hsj rfl⟩⟩
  have FIN := Lib.hid fin
  have hno : ¬ m < n → S[m]? = none := fun h => List.getElem?_eq_none (by rw [HN.out]; omega)
  have HNO := Lib.hid hno
  clear fin hno
  cases j
  · obtain rfl := him rfl
    clear him hiw
    obtain ⟨h1, h2⟩ := HFR.out w (by simp) (fun _ => rfl)
    have H1 := Lib.hid h1
    have H2 := Lib.hid h2
    clear HFR h1 h2
    by_cases hmn : ix < n
    · obtain ⟨b, rfl, s, hs, hat⟩ := FIN.out w H1.out hmn
      have HSS := Lib.hid hs
      have HAT := Lib.hid hat
      clear hs hat
      go_enter Tryd.func33, Tryd.ntmps33
      go_wp2
      go_region_held3 (fun w' => w'.cell? ⟨I, 2, none⟩ = some (.slice (some ⟨b, 0, none⟩) n c) ∧ w'.cell? ⟨I, 3, none⟩ = some (.int .i64 (ix : Nat))) (go_keep) (fail)
      all_goals go_wp2
      all_goals go_region_held3 (fun w' => w'.cell? ⟨I, 2, none⟩ = some (.slice (some ⟨b, 0, none⟩) n c) ∧ w'.cell? ⟨I, 3, none⟩ = some (.int .i64 (ix : Nat))) (go_keep) (fail)
      all_goals go_wp2
      all_goals go_ret
      all_goals exact ⟨_, rfl, by rw [HSS.out]; exact ⟨b, ix * 3, rfl, HAT.out.gr (((Gr.refl _).drew).drew)⟩, H1.out.gr (((Gr.refl _).drew).drew), H2.out.gr (by first | omega | (simp; omega)) (((Gr.refl _).drew).drew)⟩
    · have hs := HNO.out hmn
      have HSS := Lib.hid hs
      clear hs
      go_enter Tryd.func33, Tryd.ntmps33
      go_wp2
      go_region_held3 (fun w' => w'.cell? ⟨I, 2, none⟩ = some (.slice p n c) ∧ w'.cell? ⟨I, 3, none⟩ = some (.int .i64 (ix : Nat))) (go_keep) (fail)
      all_goals go_wp2
      all_goals go_ret
      all_goals exact ⟨_, rfl, by rw [HSS.out]; rfl, H1.out.gr (Gr.refl _).drew, H2.out.gr (by first | omega | (simp; omega)) (Gr.refl _).drew⟩
  · have hiw := hiw rfl
    clear him
    obtain ⟨h1, h2⟩ := HFR.out _ (fun _ => rfl) (by simp)
    have j2 : (w.setCell ⟨I, 3, none⟩ (.int .i64 (m : Nat))).cell? ⟨I, 2, none⟩ = some (.slice p n c) := (blk_cell h1.blk 2).trans rfl
    have j3 : (w.setCell ⟨I, 3, none⟩ (.int .i64 (m : Nat))).cell? ⟨I, 3, none⟩ = some (.int .i64 (m : Nat)) := (blk_cell h1.blk 3).trans rfl
    have H1 := Lib.hid h1
    have H2 := Lib.hid h2
    clear HFR h1 h2
    by_cases hmn : m < n
    · obtain ⟨b, rfl, s, hs, hat⟩ := FIN.out _ H1.out hmn
      have HSS := Lib.hid hs
      have HAT := Lib.hid hat
      clear hs hat
      go_enter Tryd.func33, Tryd.ntmps33
      go_wp2
      go_region_held3 (fun w' => w'.cell? ⟨I, 2, none⟩ = some (.slice (some ⟨b, 0, none⟩) n c) ∧ w'.cell? ⟨I, 3, none⟩ = some (.int .i64 (m : Nat))) (first | go_keep | exact ⟨j2, j3⟩ | exact ⟨by simpa using j2, by simpa using j3⟩) (fail)
      all_goals go_wp2
      all_goals go_region_held3 (fun w' => w'.cell? ⟨I, 2, none⟩ = some (.slice (some ⟨b, 0, none⟩) n c) ∧ w'.cell? ⟨I, 3, none⟩ = some (.int .i64 (m : Nat))) (first | go_keep | exact ⟨j2, j3⟩ | exact ⟨by simpa using j2, by simpa using j3⟩) (fail)
      all_goals go_wp2
      all_goals go_ret
      all_goals exact ⟨_, rfl, by rw [HSS.out]; exact ⟨b, m * 3, rfl, HAT.out.gr (((Gr.refl _).drew).drew)⟩, H1.out.gr (((Gr.refl _).drew).drew), H2.out.gr (by first | omega | (simp; omega)) (((Gr.refl _).drew).drew)⟩
    · have hs := HNO.out hmn
      have HSS := Lib.hid hs
      clear hs
      go_enter Tryd.func33, Tryd.ntmps33
      go_wp2
      go_region_held3 (fun w' => w'.cell? ⟨I, 2, none⟩ = some (.slice p n c) ∧ w'.cell? ⟨I, 3, none⟩ = some (.int .i64 (m : Nat))) (first | go_keep | exact ⟨j2, j3⟩ | exact ⟨by simpa using j2, by simpa using j3⟩) (fail)
      all_goals go_wp2
      all_goals go_ret
      all_goals exact ⟨_, rfl, by rw [HSS.out]; rfl, H1.out.gr (Gr.refl _).drew, H2.out.gr (by first | omega | (simp; omega)) (Gr.refl _).drew⟩
end Go.Proofs.YtkonfcgdokabaaaDoor
