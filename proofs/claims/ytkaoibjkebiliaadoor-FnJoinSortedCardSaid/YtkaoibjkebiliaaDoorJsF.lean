/- slices.Clone and slices.SortStableFunc at the rows of a table (at most 12). -/
import Derived.Test.YtkaoibjkebiliaaDoorJsE
import Derived.Test.YtkaoibjkebiliaaDoorLay
import Derived.Shelf.SlicesE.Clone
namespace Go.Proofs.YtkaoibjkebiliaaDoor
open Go Go.RowKit Go.Sort

theorem jrInfo : (Tryd.prog.info? 28).map (fun i => (i.zero, i.size, i.bytes)) = some (some (.agg #[.int .i64 0, .int .i64 0, .string ⟨#[]⟩, .slice none 0 0, .int .u8 0]), 5, 64) := by kernel_rfl
theorem flat_at : ∀ (l : List Jr) (i : Nat) (hi : i < l.length) (j : Nat) (u : Value), (l[i].cs)[j]? = some u → (l.map Jr.cs).flatten[i * 5 + j]? = some u
  | [], _, hi, _, _, _ => absurd hi (by simp)
  | a :: l, 0, _, j, u, h => by
    have hj : j < 5 := by have := (List.getElem?_eq_some_iff.1 h).1; simpa [Jr.cs] using this
    simp only [List.map_cons, List.flatten_cons, Nat.zero_mul, Nat.zero_add]
    rw [List.getElem?_append_left (by simpa [Jr.cs] using hj)]
    simpa using h
  | a :: l, i + 1, hi, j, u, h => by
    simp only [List.map_cons, List.flatten_cons]
    rw [List.getElem?_append_right (by rw [Jr.cs_len]; omega), Jr.cs_len, show (i + 1) * 5 + j - 5 = i * 5 + j by omega]
    exact flat_at l i (by simpa using hi) j u (by simpa using h)
theorem flat_len : ∀ (l : List Jr), (l.map Jr.cs).flatten.length = l.length * 5
  | [] => rfl
  | a :: l => by simp only [List.map_cons, List.flatten_cons, List.length_append, flat_len l, Jr.cs_len, List.length_cons]; omega
theorem flat_of {w : World} {b : Nat} : ∀ (l : List Jr) (o : Nat), (∀ i (hi : i < l.length), JrAt w b (o + i * 5) l[i]) → ∀ j u, (l.map Jr.cs).flatten[j]? = some u → w.cell? ⟨b, o + j, none⟩ = some u
  | [], _, _, _, _, h => by simp at h
  | a :: l, o, hc, j, u, h => by
    simp only [List.map_cons, List.flatten_cons] at h
    by_cases hj : j < 5
    · rw [List.getElem?_append_left (by rw [Jr.cs_len]; exact hj)] at h
      have := (hc 0 (by simp)).cell j u (by simpa using h)
      simpa using this
    · rw [List.getElem?_append_right (by rw [Jr.cs_len]; omega), Jr.cs_len] at h
      have := flat_of l (o + 5) (fun i hi => by
        have := hc (i + 1) (by simpa using hi)
        rw [show o + (i + 1) * 5 = o + 5 + i * 5 by omega] at this
        simpa using this) (j - 5) u h
      rwa [show o + 5 + (j - 5) = o + j by omega] at this

/-- What a clone is: a row of the call's own, with the same rows. -/
def RetClJ (w : World) (l : List Jr) (e : Ending) (w' : World) : Prop :=
  ∃ p c, e = .returned (.slice p l.length c) ∧ l.length ≤ c ∧ c ≤ maxLen ∧ (0 < l.length → ∃ b, p = some ⟨b, 0, none⟩ ∧ w.heap.size ≤ b ∧ RowJ w' b 0 l.toArray) ∧ Gr w w'

theorem cloneJ (v : Value) (l : List Jr) (w : World) (h : RdJ w v l) (hs : ∀ x ∈ l, x.sh) (h12 : l.length ≤ 12) :
    Calls Tryd.prog 8 #[v] w (RetClJ w l) := by
  obtain ⟨p, c, rfl, hlc, hcm, hc⟩ := h
  cases p with
  | none =>
    have hl : l = [] := by
      rcases l with _ | ⟨a, l⟩
      · rfl
      · obtain ⟨b, o, e, _⟩ := hc (by simp); cases e
    subst hl
    refine (AnyE.slices_Clone_nil Tryd.lCloneJ 0 c w).mono ?_
    rintro e w' ⟨rfl, rfl⟩
    exact ⟨none, 0, rfl, Nat.le_refl _, Nat.zero_le _, fun h => absurd h (by simp), Gr.refl _⟩
  | some a =>
    obtain ⟨i0, hi, hz0, hz1, hz2⟩ := info_parts jrInfo
    have hone : ∀ u ∈ (l.map Jr.cs).flatten, u.oneCell' = true := by
      intro u hu
      obtain ⟨cs, hcs, huc⟩ := List.mem_flatten.1 hu
      obtain ⟨x, hx, rfl⟩ := List.mem_map.1 hcs
      obtain ⟨q, m, k, e⟩ := hs x hx
      simp only [Jr.cs, List.mem_cons, List.not_mem_nil, or_false] at huc
      rcases huc with rfl | rfl | rfl | rfl | rfl <;> first | rfl | (rw [e]; rfl)
    obtain ⟨b, o, s⟩ := a
    by_cases hn : 0 < l.length
    · obtain ⟨b', o', e, hat⟩ := hc hn
      injection e with e
      injection e with e1 e2 e3
      subst e1 e2 e3
      refine (AnyE.slices_Clone Tryd.lCloneJ i0 _ 5 64 hi hz0 hz1 hz2 rfl (by decide) (fun w => by kernel_rfl) b o l.length c (l.map Jr.cs).flatten w (flat_len l) (by simp only [maxLen]; omega) (by omega) (flat_of l o hat) hone).mono ?_
      rintro e w' ⟨v', rfl, hown, _, hg⟩
      obtain ⟨_, hrow⟩ := hown
      rcases hrow with ⟨_, h0⟩ | ⟨b2, cap, cur, rfl, hb2, hh, h1, h2, h3, h4⟩
      · omega
      · refine ⟨_, cap, rfl, h1, h2, fun _ => ⟨b2, rfl, hb2, ⟨⟨cur, _, hh⟩, fun i hi j u hj => ?_⟩⟩, hg⟩
        have hi' : i < l.length := by simpa using hi
        have hj5 : j < 5 := by have := (List.getElem?_eq_some_iff.1 hj).1; simpa [Jr.cs] using this
        rw [getElem!_pos _ i hi] at hj
        have hf := flat_at l i hi' j u (by simpa using hj)
        rw [Nat.zero_add, blk_cell hh, ← Array.getElem?_toList]
        rw [← h4, List.getElem?_take_of_lt (by omega)] at hf
        exact hf
    · obtain rfl : l = [] := List.eq_nil_of_length_eq_zero (by omega)
      have q22 : ∀ (w : World) (a : Option Addr) (n c n' c' : Nat), (binOp .eql 22 (.slice a n c) (.slice none n' c')).run Tryd.prog w = .ok (.bool a.isNone) w := fun w a n c n' c' => Lib.run_eql_slice_nil w _ _ a n c n' c' Tryd.underlying22
      clear hc hn hone hs
      go_enter Tryd.func8, Tryd.ntmps8
      go_wp2_with (at_builtin; refine wpList_append_own _ rfl _ _ 22 rfl w.heap.size 28 i0 _ 5 64 Tryd.underlying22 hi hz0 hz1 hz2 rfl (by decide) _ _ _ rfl (World.ownsRow_made w #[] 0 (Nat.le_refl _) (Nat.zero_le _) (by simp)) ⟨b, o, s⟩ 0 c [] rfl rfl (fun j u h => by simp at h) (fun u h => by simp at h) (by simp [maxLen]) (by omega) (by simp) ?_; intro v' w1 hown hgrow hnil)
      go_ret
      have hg : Gr w w1 := ((Below.refl _ w).alloc (Nat.le_refl _) _).grown hgrow (by simp) (by intro k hk; change some w.heap.size = some k at hk; injection hk with hk; exact Nat.le_of_eq hk)
      rcases hown.2 with ⟨rfl, _⟩ | ⟨b2, cap, cur, rfl, hb2, hh, h1, h2, h3, h4⟩
      · exact ⟨none, 0, rfl, Nat.le_refl _, Nat.zero_le _, fun h => absurd h (by simp), hg⟩
      · exact ⟨_, cap, rfl, by simp, h2, fun h => absurd h (by simp), hg⟩

set_option maxRecDepth 100000 in
theorem insertion0 (g : FuncId) (p : Option Addr) (c : Nat) (w : World) :
    Calls Tryd.prog 40 #[.slice p 0 c, .int .i64 0, .int .i64 0, .func (.func g) #[] #[]] w fun e w' => e = .returned (.tuple #[]) ∧ w' = w := by
  go_enter Tryd.func40, Tryd.ntmps40
  go_wp2
  go_loopw [8] (fun i wr => i = .int .i64 1 ∧ wr = w) (fun _ _ => 0)
  case atStart => exact ⟨rfl, rfl⟩
  case round =>
    obtain ⟨rfl, rfl⟩ := hrel
    go_wp2
    go_end0
    exact ⟨rfl, rfl⟩

/-- The call of the insertion sort, whatever it leaves: at most 12 rows. -/
theorem stableOf (g : FuncId) (p : Option Addr) (n c : Nat) (w : World) (R : World → Prop) (h12 : n ≤ 12)
    (h : Calls Tryd.prog 40 #[.slice p n c, .int .i64 0, .int .i64 n, .func (.func g) #[] #[]] w fun e w' => e = .returned (.tuple #[]) ∧ R w') :
    Calls Tryd.prog 27 #[.slice p n c, .int .i64 n, .func (.func g) #[] #[]] w fun e w' => e = .returned (.tuple #[]) ∧ R w' := by
  have H := Lib.hid h
  have h20 : ¬ (20 : Int) ≤ (n : Int) := by omega
  have h20' : ¬ (20 : Int) < (n : Int) := by omega
  clear h
  go_enter Tryd.func27, Tryd.ntmps27
  go_wp2
  go_loopw [7, 8] (fun i j wr => i = .int .i64 0 ∧ j = .int .i64 20 ∧ wr = w) (fun _ _ _ => 0)
  case atStart => exact ⟨rfl, rfl, rfl⟩
  case round =>
    obtain ⟨rfl, rfl, rfl⟩ := hrel
    go_wp2_with (first
      | (go_at_call 40; go_must (refine H.out.mono ?_); rintro e w2 ⟨rfl, hR⟩; have HR := Lib.hid hR; clear hR))
    go_loopw [6] (fun i wr => i = .int .i64 20 ∧ wr = w2) (fun _ _ => 0)
    case atStart => exact ⟨rfl, rfl⟩
    case round =>
      obtain ⟨rfl, rfl⟩ := hrel
      go_wp2
      go_end0
      exact ⟨rfl, HR.out⟩

theorem sortOf (g : FuncId) (p : Option Addr) (n c : Nat) (w : World) (R : World → Prop) (h12 : n ≤ 12) (hc : n ≤ c) (hc2 : c ≤ 9223372036854775807)
    (h : Calls Tryd.prog 40 #[.slice p n c, .int .i64 0, .int .i64 n, .func (.func g) #[] #[]] w fun e w' => e = .returned (.tuple #[]) ∧ R w') :
    Calls Tryd.prog 9 #[.slice p n c, .func (.func g) #[] #[]] w fun e w' => e = .returned (.tuple #[]) ∧ R w' := by
  have H := Lib.hid (stableOf g p n c w R h12 h)
  clear h
  go_enter Tryd.func9, Tryd.ntmps9
  go_wp2_with (first
    | (go_at_call 27; go_must (refine H.out.mono ?_); rintro e w2 ⟨rfl, hR⟩; have HR := Lib.hid hR; clear hR))
  go_end0
  exact ⟨rfl, HR.out⟩
end Go.Proofs.YtkaoibjkebiliaaDoor
