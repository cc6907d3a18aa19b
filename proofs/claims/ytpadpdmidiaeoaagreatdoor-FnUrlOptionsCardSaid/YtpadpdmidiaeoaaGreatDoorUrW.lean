/- A text parted at a sign (FnUrlOptions). -/
import Derived.Test.YtpadpdmidiaeoaaGreatDoorUrO
namespace Go.Proofs.YtpadpdmidiaeoaaGreatDoor
open Go Go.RowKit

/-- The parts of a text between the signs c. -/
def splitL (c : UInt8) : List UInt8 → List (List UInt8)
  | [] => [[]]
  | b :: L => if b = c then [] :: splitL c L else match splitL c L with
    | [] => [[b]]
    | p :: ps => (b :: p) :: ps
theorem splitL_ne (c : UInt8) (L : List UInt8) : splitL c L ≠ [] := by
  cases L with
  | nil => simp [splitL]
  | cons b L =>
    unfold splitL
    split
    · simp
    · split <;> simp
theorem splitL_no (c : UInt8) : ∀ L : List UInt8, c ∉ L → splitL c L = [L]
  | [], _ => rfl
  | b :: L, h => by
    have hb : b ≠ c := fun e => h (by rw [e]; exact List.mem_cons_self)
    rw [splitL, if_neg hb, splitL_no c L (fun hm => h (List.mem_cons_of_mem _ hm))]
theorem splitL_at (c : UInt8) (R : List UInt8) : ∀ A : List UInt8, c ∉ A → splitL c (A ++ c :: R) = A :: splitL c R
  | [], _ => by simp [splitL]
  | b :: A, h => by
    have hb : b ≠ c := fun e => h (by rw [e]; exact List.mem_cons_self)
    rw [List.cons_append, splitL, if_neg hb, splitL_at c R A (fun hm => h (List.mem_cons_of_mem _ hm))]
theorem splitL_len (c : UInt8) : ∀ L : List UInt8, (splitL c L).length ≤ L.length + 1
  | [] => by simp [splitL]
  | b :: L => by
    have ih := splitL_len c L
    unfold splitL
    split
    · simp; omega
    · split
      · simp
      · rename_i h; rw [h] at ih; simp at ih ⊢; omega
theorem first_of (c : UInt8) (L : List UInt8) (h : c ∈ L) : ∃ A R, L = A ++ c :: R ∧ c ∉ A := by
  induction L with
  | nil => cases h
  | cons b L ih =>
    by_cases e : b = c
    · exact ⟨[], L, by rw [e]; rfl, by simp⟩
    · have h2 : c ∈ L := by
        rcases List.mem_cons.1 h with h | h
        · exact absurd h.symm e
        · exact h
      obtain ⟨A, R, h1, h3⟩ := ih h2
      refine ⟨b :: A, R, by rw [h1]; rfl, fun hm => ?_⟩
      rcases List.mem_cons.1 hm with hm | hm
      · exact e hm.symm
      · exact h3 hm
/-- A row of texts. -/
def strRow (P : List (List UInt8)) : List (List Value) := P.map fun p => [.string (bs p)]
theorem strInfo : (Tryz.prog.info? 9).map (fun i => (i.zero, i.size, i.bytes)) = some (some (.string ⟨#[]⟩), 1, 16) := by kernel_rfl
theorem cell_new {W : World} {x : Value} {T : TypeId} {H : Nat} (hH : W.heap.size = H) : ∀ j u, [[x]].flatten[j]? = some u → (W.alloc (.cells #[x] T)).cell? ((⟨H, 0, none⟩ : Addr).add j) = some u := by
  intro j u h
  have hj : j = 0 := by
    have := (List.getElem?_eq_some_iff.1 h).1
    simp at this; omega
  subst hj
  have hu : x = u := by simpa using h
  subst hu
  rw [Lib.addr_add]
  exact (blk_cell (heap_new_at W _ hH.symm) 0).trans rfl

set_option maxRecDepth 100000 in
set_option maxHeartbeats 4000000 in
theorem zzSplit (L : List UInt8) (c : UInt8) (hl : L.length ≤ 100000) (w : World) :
    Calls Tryz.prog 43 #[.string (bs L), .string (bs [c])] w fun e w' => ∃ v, e = .returned v ∧ OwnR 9 1 w.heap.size w' v (strRow (splitL c L)) ∧ Gr w w' := by
  have hcs : (bs [c]).size = 1 := rfl
  have HI := fun A R h hl w => Lib.hid (zzIndexAt A R c h hl w)
  have HN := fun A h hl w => Lib.hid (zzIndexNo A c h hl w)
  generalize hC : bs [c] = C at *
  generalize hF : splitL c L = F at *
  have hFl : F.length ≤ 100001 := by rw [← hF]; have := splitL_len c L; omega
  go_enter Tryz.func43, Tryz.ntmps43
  go_wp2
  go_loopw [0, 5] (fun s o wr => ∃ (K : List UInt8) (v : Value) (P : List (List UInt8)), s = .string (bs K) ∧ v = o ∧ K.length ≤ L.length ∧ P ++ splitL c K = F ∧ OwnR 9 1 w.heap.size wr v (strRow P) ∧ Gr w wr) (fun s _ _ => match s with | .string x => x.size | _ => 0)
  case atStart => exact ⟨L, _, [], rfl, rfl, Nat.le_refl _, hF, OwnR.nil _ _ _ _, Gr.refl w⟩
  case round =>
    obtain ⟨K, v, P, rfl, rfl, hkl, hPF, hown, hgr⟩ := hrel
    have hPl : P.length ≤ 100001 := by have := congrArg List.length hPF; rw [List.length_append] at this; omega
    have HPL := Lib.hid hPl
    have HOW := Lib.hid hown
    have HGR := Lib.hid hgr
    obtain ⟨p0, m0, c0, rfl⟩ : ∃ p m c, v = .slice p m c := by obtain ⟨p, c, rfl, _⟩ := hown.shape; exact ⟨_, _, _, rfl⟩
    clear hown hgr hPl
    by_cases hc : c ∈ K
    · obtain ⟨A, R, rfl, hA⟩ := first_of c K hc
      rw [splitL_at c R A hA] at hPF
      have hkl' : A.length + 1 + R.length ≤ L.length := by rw [List.length_append, List.length_cons] at hkl; omega
      have HIA := fun w => (HI A R hA (by omega) w)
      obtain ⟨p1, p2⟩ := cut_parts A R c
      have hsz : (bs (A ++ c :: R)).size = A.length + 1 + R.length := by rw [bs_size]; simp; omega
      have hzs : (bs R).size = R.length := bs_size R
      have hPF' : (P ++ [A]) ++ splitL c R = F := by rw [List.append_assoc]; exact hPF
      have HPF := Lib.hid hPF'
      have HKL := Lib.hid (show R.length ≤ L.length by omega)
      have hml : A.length ≤ 100000 := by omega
      have hrl : R.length ≤ 100000 := by omega
      have HRW : Hid (strRow P ++ [[.string (bs A)]] = strRow (P ++ [A])) := Lib.hid (by simp [strRow])
      generalize bs (A ++ c :: R) = S at *
      generalize hY : bs A = Y at *
      generalize hZ : bs R = Z at *
      generalize A.length = m at *
      generalize hr : R.length = r at *
      have HRL := Lib.hid hr
      clear hr
      have HZ := Lib.hid hZ
      have i1 : (m : Int) + 1 ≤ ((m + 1 + r : Nat) : Int) := by omega
      have i2 : (m : Int) ≤ ((m + 1 + r : Nat) : Int) := by omega
      clear hPF hPF' hkl hkl' hc hA hY hZ
      go_wp2_with (first
        | (go_at_call 60; go_must (with_reducible refine (HIA _).out.mono ?_); rintro e w3 ⟨rfl, hw⟩; obtain rfl := hw.symm)
        | (at_builtin; go_must (refine wpList_append_row rfl _ _ rfl Tryz.underlying28 strInfo rfl (by decide) (by decide) (B := w.heap.size) rfl (OwnR.gr HOW.out ((Gr.refl wr).alloc _)) [[.string Y]] (by intro c hc; simp at hc; subst hc; exact ⟨rfl, fun u hu => by simp at hu; subst hu; rfl⟩) ⟨wr.heap.size, 0, none⟩ 1 1 rfl rfl (cell_new rfl) (by have := HPL.out; simp [strRow]; omega) (by have := HGR.out.size; simp; omega) ?_); intro v5 w5 ho5 hg5; have HG5 := Lib.hid (Below.trans (HGR.out.alloc _) ((OwnR.gr HOW.out ((Gr.refl wr).alloc _)).below hg5 (by have := HGR.out.size; simp; omega)))))
      go_roundw
      case rel => exact ⟨R, v5, P ++ [A], by rw [HZ.out], rfl, by rw [HRL.out]; exact HKL.out, HPF.out, by rw [← HRW.out]; exact ho5, HG5.out⟩
      case measure => simp; omega
    · have HNA := fun w => (HN K hc (by omega) w)
      rw [splitL_no c K hc] at hPF
      have HPF := Lib.hid hPF
      have HRW : Hid (strRow P ++ [[.string (bs K)]] = strRow (P ++ [K])) := Lib.hid (by simp [strRow])
      generalize bs K = S at *
      clear hPF hkl hc
      go_wp2_with (first
        | (go_at_call 60; go_must (with_reducible refine (HNA _).out.mono ?_); rintro e w3 ⟨rfl, hw⟩; obtain rfl := hw.symm)
        | (at_builtin; go_must (refine wpList_append_row rfl _ _ rfl Tryz.underlying28 strInfo rfl (by decide) (by decide) (B := w.heap.size) rfl (OwnR.gr HOW.out ((Gr.refl wr).alloc _)) [[.string S]] (by intro c hc; simp at hc; subst hc; exact ⟨rfl, fun u hu => by simp at hu; subst hu; rfl⟩) ⟨wr.heap.size, 0, none⟩ 1 1 rfl rfl (cell_new rfl) (by have := HPL.out; simp [strRow]; omega) (by have := HGR.out.size; simp; omega) ?_); intro v5 w5 ho5 hg5; have HG5 := Lib.hid (Below.trans (HGR.out.alloc _) ((OwnR.gr HOW.out ((Gr.refl wr).alloc _)).below hg5 (by have := HGR.out.size; simp; omega)))))
      go_ret
      exact ⟨_, rfl, by rw [← HPF.out, ← HRW.out]; exact ho5, HG5.out⟩
end Go.Proofs.YtpadpdmidiaeoaaGreatDoor
