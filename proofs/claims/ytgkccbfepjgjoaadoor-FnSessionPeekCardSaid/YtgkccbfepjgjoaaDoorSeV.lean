/- A slice of slices of bytes that comes in as an argument, opened; is none too long. -/
import Derived.Test.YtgkccbfepjgjoaaDoorOpenB
import Derived.Test.YtgkccbfepjgjoaaDoorSeMa
import Derived.LoopTactic
namespace Go.Proofs.YtgkccbfepjgjoaaDoor
open Go Go.RowKit Go.ChangeShapes Go.WideShapes Go.ChangeAt

/-- The slice value v reads as the rows l. -/
def Rdd (w : World) (v : Value) (l : List (List Int)) : Prop :=
  ∃ p c, v = .slice p l.length c ∧ l.length ≤ c ∧ c ≤ maxLen ∧ (0 < l.length → ∃ b o, p = some ⟨b, o, none⟩ ∧ ∀ i (hi : i < l.length), ∃ u, w.cell? ⟨b, o + i, none⟩ = some u ∧ Rd w u l[i])
theorem Rdd.gr {a w : World} {v : Value} {l : List (List Int)} (h : Rdd a v l) (g : Gr a w) : Rdd w v l := by
  obtain ⟨p, c, rfl, h1, h2, h3⟩ := h
  refine ⟨p, c, rfl, h1, h2, fun hn => ?_⟩
  obtain ⟨b, o, rfl, hc⟩ := h3 hn
  refine ⟨b, o, rfl, fun i hi => ?_⟩
  obtain ⟨u, k1, k2⟩ := hc i hi
  exact ⟨u, g.cell k1, k2.gr g⟩

theorem list_of_each {α : Type} {Q : Nat → α → Prop} : ∀ n, (∀ i, i < n → ∃ x, Q i x) → ∃ l : List α, l.length = n ∧ ∀ i (hi : i < l.length), Q i l[i]
  | 0, _ => ⟨[], rfl, fun i hi => absurd hi (Nat.not_lt_zero _)⟩
  | n + 1, h => by
    obtain ⟨l, hl, hq⟩ := list_of_each n (fun i hi => h i (by omega))
    obtain ⟨x, hx⟩ := h n (by omega)
    refine ⟨l ++ [x], by simp [hl], fun i hi => ?_⟩
    by_cases hil : i < l.length
    · rw [List.getElem_append_left hil]; exact hq i hil
    · simp at hi
      obtain rfl : i = n := by omega
      rw [List.getElem_append_right (by omega)]
      simpa using hx

theorem cells_u8s : Tryd.prog.cellsOf 24 = 1 := by kernel_rfl

set_option maxRecDepth 100000 in
theorem open_rows {H : Type} {enc : TypeId × Value → H} {w : World} {base : Nat} {spare : Nat → Bool} {held : Bool} {r : Reach} {b0 : Nat} {v : Value} {d : DataW H} {p : List MemPlace}
    (hv : Value.okWide Tryd.prog w r b0 43 v) (h : DataW.Trod enc Tryd.prog w base spare held 43 v d p) : ∃ l, Rdd w v l := by
  obtain ⟨a0, len, cap, rfl⟩ := okWide_slice Tryd.underlying43 hv
  obtain ⟨fuel, hf⟩ := h
  rcases DataW.trod_slice Tryd.underlying43 hf with ⟨e, _⟩ | ⟨a, len', cap', elems, rest, n, _, e, _, _, hl, hm, hlen, hel, _, _⟩
  · have : (Value.slice a0 len cap) = .slice none 0 0 := by simpa [Value.cells] using e
    rw [this]
    exact ⟨[], none, 0, rfl, Nat.le_refl _, Nat.zero_le _, fun h => absurd h (by simp)⟩
  · have : (Value.slice a0 len cap) = .slice (some a) len' cap' := by simpa [Value.cells] using e
    rw [this]
    have each : ∀ i, i < len' → ∃ xs, ∃ u, w.cell? (a.add i) = some u ∧ Rd w u xs := by
      intro i hi
      have h1 := hel i hi
      rw [cells_u8s, Nat.mul_one, List.getElem?_eq_getElem (by omega)] at h1
      obtain ⟨cs, hcs, htr⟩ := Option.bind_eq_some_iff.1 h1
      obtain ⟨u, xs, rfl, hr⟩ := open_bytes_cell htr
      exact ⟨xs, u, cell_of_cells?_one hcs, hr⟩
    obtain ⟨l, hll, hq⟩ := list_of_each len' each
    refine ⟨l, some a, cap', by rw [hll], by omega, hm, fun hn => ?_⟩
    obtain ⟨b, o, s⟩ := a
    have hs : s = none := by
      obtain ⟨u, h0, _⟩ := hq 0 hn
      cases s with
      | none => rfl
      | some z =>
        simp only [Addr.add, World.cell?] at h0
        split at h0 <;> simp at h0
    subst hs
    refine ⟨b, o, rfl, fun i hi => ?_⟩
    obtain ⟨u, k1, k2⟩ := hq i hi
    rw [Lib.addr_add] at k1
    exact ⟨u, k1, k2⟩

set_option maxRecDepth 100000 in
theorem fits9 (v : Value) (l : List (List Int)) (w : World) (h : Rdd w v l) : ∃ bb : Bool, Calls Tryd.prog 19 #[v] w fun e w' => e = .returned (.bool bb) ∧ w = w' := by
  obtain ⟨p, c, rfl, hlc, hcm, hcells⟩ := h
  obtain ⟨n, hn⟩ : ∃ n, l.length = n := ⟨_, rfl⟩
  have hcm2 : c ≤ 9223372036854775807 := by simp only [maxLen] at hcm; omega
  have HN := Lib.hid hn
  have HC := Lib.hid hcells
  rw [hn] at hlc ⊢
  clear hn hcells hcm
  by_cases hbig : 2147483647 < n
  · refine ⟨false, ?_⟩
    clear HC HN
    go_enter Tryd.func19, Tryd.ntmps19
    go_wp2
    go_ret
    exact ⟨rfl, rfl⟩
  · by_cases hall : ∀ x ∈ l, x.length ≤ 2147483647
    · refine ⟨true, ?_⟩
      have HA := Lib.hid hall
      clear hall
      go_enter Tryd.func19, Tryd.ntmps19
      go_wp2
      go_loop [10] (fun i => ∃ j : Nat, i = .int .i64 j ∧ j ≤ n) (fun i => ((n : Int) - intOf i).toNat)
      case atStart => exact ⟨0, rfl, Nat.zero_le _⟩
      case round =>
        obtain ⟨j, rfl, hj⟩ := hrel
        by_cases e : j < n
        · obtain ⟨b, o, rfl, hc⟩ := HC.out (by rw [HN.out]; omega)
          have hjl : j < l.length := by rw [HN.out]; exact e
          obtain ⟨u, k1, k2⟩ := hc j hjl
          have hx := HA.out _ (List.getElem_mem hjl)
          obtain ⟨pu, cu, rfl, _⟩ := k2
          generalize l[j].length = m at *
          clear hc
          go_wp2
          go_round
          case rel => exact ⟨j + 1, by go_num, by omega⟩
          case measure => simp [intOf]; omega
        · go_wp2
          go_ret
          exact ⟨rfl, rfl⟩
    · refine ⟨false, ?_⟩
      have HA := Lib.hid hall
      clear hall
      go_enter Tryd.func19, Tryd.ntmps19
      go_wp2
      go_loop [10] (fun i => ∃ j : Nat, i = .int .i64 j ∧ j ≤ n ∧ ∀ k (hk : k < l.length), k < j → l[k].length ≤ 2147483647) (fun i => ((n : Int) - intOf i).toNat)
      case atStart => exact ⟨0, rfl, Nat.zero_le _, fun k _ h => absurd h (Nat.not_lt_zero _)⟩
      case round =>
        obtain ⟨j, rfl, hj, hpast⟩ := hrel
        by_cases e : j < n
        · obtain ⟨b, o, rfl, hc⟩ := HC.out (by rw [HN.out]; omega)
          have hjl : j < l.length := by rw [HN.out]; exact e
          obtain ⟨u, k1, k2⟩ := hc j hjl
          obtain ⟨pu, cu, rfl, _⟩ := k2
          obtain ⟨m, hm⟩ : ∃ m, l[j].length = m := ⟨_, rfl⟩
          rw [hm] at k1
          have HP := Lib.hid hpast
          have HM := Lib.hid hm
          clear hc hpast hm
          by_cases hx : m ≤ 2147483647
          · go_wp2
            go_round
            case rel =>
              refine ⟨j + 1, by go_num, by omega, fun k hk hkj => ?_⟩
              by_cases hkj2 : k < j
              · exact HP.out k hk hkj2
              · obtain rfl : k = j := by omega
                rw [HM.out]; exact hx
            case measure => simp [intOf]; omega
          · go_wp2
            go_ret
            exact ⟨rfl, rfl⟩
        · exfalso
          apply HA.out
          intro x hx
          obtain ⟨k, hk, rfl⟩ := List.getElem_of_mem hx
          exact hpast k hk (by rw [HN.out] at hk; omega)
end Go.Proofs.YtgkccbfepjgjoaaDoor
