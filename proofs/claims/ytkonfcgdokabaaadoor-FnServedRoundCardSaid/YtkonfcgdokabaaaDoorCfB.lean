/- The address of a server, the number of a privilege, and the laws' fixed example. -/
import Derived.Test.YtkonfcgdokabaaaDoorIvB
import Derived.Lib.Case
namespace Go.Proofs.YtkonfcgdokabaaaDoor
open Go Go.RowKit

theorem itoa_len (n : Int) (h0 : -9223372036854775808 ≤ n) (h1 : n ≤ 9223372036854775807) : (Lib.itoa n).length ≤ 21 := by
  by_cases h : n < 0
  · obtain ⟨u, rfl⟩ : ∃ u : Nat, n = -(u : Int) := ⟨n.natAbs, by omega⟩
    rw [Lib.itoa_neg u (by omega), List.length_cons, Lib.decDigits_length]
    have := Lib.nDigits_le20 u (by omega); omega
  · obtain ⟨u, rfl⟩ := Int.eq_ofNat_of_zero_le (show 0 ≤ n by omega)
    rw [Lib.itoa_nonneg, Lib.decDigits_length]
    have := Lib.nDigits_le20 u (by omega); omega

theorem serverOf (p a : ByteArray) (n : Int) (w : World) :
    Calls Tryd.prog 32 #[.agg #[.string p, .string a, .int .i64 n]] w fun e w' => e = .returned (.agg #[.string p, .string a, .int .i64 n]) ∧ Gr w w' := by
  go_enter Tryd.func32, Tryd.ntmps32
  go_wp2
  have zz : ∀ i v, (#[.string p, .string a, .int .i64 n] : Array Value)[i]? = some v → ((w.alloc (.cells #[.string p, .string a, .int .i64 n] 26)).alloc (.cells #[.string p, .string a, .int .i64 n] 58)).cell? ⟨w.heap.size + 1, i, none⟩ = some v := fun i v h => (blk_cell (heap_new_at (w.alloc (.cells #[.string p, .string a, .int .i64 n] 26)) _ (by simp)) i).trans h
  have z0 := zz 0 _ rfl
  have z1 := zz 1 _ rfl
  have z2 := zz 2 _ rfl
  exact bodyPost_ret (v := .agg #[.string p, .string a, .int .i64 n]) (by simp [results, Tryd.results32, go_sem, z0, z1, z2]) rfl ⟨rfl, ((Gr.refl w).alloc _).alloc _⟩

set_option maxRecDepth 100000 in
theorem netAddr (b : Nat) (p a : ByteArray) (n : Int) (hn : -9223372036854775808 ≤ n ∧ n ≤ 9223372036854775807) (w : World) (ht : Tab10 w) (ha : a.size ≤ 4000000000)
    (hb1 : w.cell? ⟨b, 1, none⟩ = some (.string a)) (hb2 : w.cell? ⟨b, 2, none⟩ = some (.int .i64 n)) :
    Calls Tryd.prog 37 #[.pointer (some ⟨b, 0, none⟩)] w fun e w' => e = .returned (.string (joinS a (bs (Lib.itoa n)))) ∧ Gr w w' := by
  have HI := fun w ht => Lib.hid (itoa n hn.1 hn.2 w ht)
  have hl := itoa_len n hn.1 hn.2
  have HJ := fun w => Lib.hid (joinHost a (bs (Lib.itoa n)) w ha (by rw [bs_size]; omega))
  generalize bs (Lib.itoa n) = P at *
  clear hl hn ha
  go_enter Tryd.func37, Tryd.ntmps37
  go_wp2
  go_region_held3 (fun w' => w'.cell? ⟨b, 1, none⟩ = some (.string a) ∧ w'.cell? ⟨b, 2, none⟩ = some (.int .i64 n)) (first | go_keep | (with_reducible exact ⟨hG.cell hb1, hG.cell hb2⟩))
    ((first
      | (go_at_call 23; go_must (refine (HI _ (ht.gr (by with_reducible first | exact Gr.refl _ | exact (Gr.refl _).drew))).out.mono ?_); rintro e w2 ⟨rfl, hg2⟩; have hG : Gr w w2 := Gr.trans (by with_reducible first | exact Gr.refl _ | exact (Gr.refl _).drew) hg2)
      | (go_at_call 42; go_must (refine (HJ _).out.mono ?_); rintro e w3 ⟨rfl, rfl⟩)))
  all_goals
    go_wp2_with fail
    go_ret
    exact ⟨rfl, hG⟩

theorem network (p a : ByteArray) (n : Int) (hn : -9223372036854775808 ≤ n ∧ n ≤ 9223372036854775807) (w : World) (ht : Tab10 w) (ha : a.size ≤ 4000000000) :
    Calls Tryd.prog 22 #[.agg #[.string p, .string a, .int .i64 n]] w fun e w' => e = .returned (.string (joinS a (bs (Lib.itoa n)))) ∧ Gr w w' := by
  have HS := fun w => Lib.hid (serverOf p a n w)
  have HN := fun b w ht h1 h2 => Lib.hid (netAddr b p a n hn w ht ha h1 h2)
  generalize joinS a (bs (Lib.itoa n)) = J at *
  clear hn ha
  go_enter Tryd.func22, Tryd.ntmps22
  go_wp2_with (first
    | (go_at_call 32; refine (HS _).out.mono ?_; rintro e w1 ⟨rfl, hg1⟩)
    | (go_at_call 37; refine (HN _ _ (ht.gr ((((Gr.refl w).alloc _).trans hg1).alloc _)) ((blk_cell (heap_new_at w1 _ rfl) 1).trans rfl) ((blk_cell (heap_new_at w1 _ rfl) 2).trans rfl)).out.mono ?_; rintro e w2 ⟨rfl, hg2⟩))
  go_ret
  exact ⟨rfl, ((((Gr.refl w).alloc _).trans hg1).alloc _).trans hg2⟩

/-- The number of a privilege's name. -/
def privN (L : List UInt8) : Int :=
  if L = [83, 89, 83, 68, 66, 65] then 32 else if L = [83, 89, 83, 79, 80, 69, 82] then 64 else if L = [83, 89, 83, 65, 83, 77] then 4194304
  else if L = [83, 89, 83, 66, 65, 67, 75, 85, 80] then 16777216 else if L = [83, 89, 83, 68, 71] then 33554432 else if L = [83, 89, 83, 75, 77] then 67108864 else if L = [83, 89, 83, 82, 65, 67] then 134217728 else 0

set_option maxRecDepth 100000 in
theorem fromString (L : List UInt8) (hl : L.length ≤ 100000) (ha : ∀ b ∈ L, b.toNat < 128) (w : World) :
    Calls Tryd.prog 39 #[.string (bs L)] w fun e w' => e = .returned (.int .i64 (privN (Lib.toUpperA L))) ∧ Gr w w' := by
  have hu := Tryd.strings_ToUpper_ascii (bs L) w (by rw [bs_size]; omega) (fun j b hj => ha b (by have := List.mem_of_getElem? hj; simpa [bs] using this))
  have e : (bs L).data.toList = L := by simp [bs]
  rw [e] at hu
  have HU := Lib.hid hu
  clear hu e
  generalize Lib.toUpperA L = U at *
  have hn : ∀ N : List UInt8, ((⟨U.toArray⟩ : ByteArray).toList == N) = decide (U = N) := by
    intro N
    have : (⟨U.toArray⟩ : ByteArray).toList = U := by simp
    rw [this]
    by_cases h : U = N
    · subst h; simp
    · rw [decide_eq_false h, beq_eq_false_iff_ne]; exact h
  generalize (⟨U.toArray⟩ : ByteArray) = X at *
  unfold privN
  go_enter Tryd.func39, Tryd.ntmps39
  go_wp2_with (first | (go_at_call 41; refine HU.out.mono ?_; rintro e w1 ⟨rfl, hg1⟩))
  all_goals (go_ret; exact ⟨rfl, hg1⟩)

theorem privilege (L : List UInt8) (hl : L.length ≤ 100000) (ha : ∀ b ∈ L, b.toNat < 128) (w : World) :
    Calls Tryd.prog 26 #[.string (bs L)] w fun e w' => e = .returned (.int .i64 (privN (Lib.toUpperA L))) ∧ Gr w w' := by
  have H := Lib.hid (fromString L hl ha w)
  generalize privN (Lib.toUpperA L) = N at *
  clear ha hl
  go_enter Tryd.func26, Tryd.ntmps26
  go_wp2_with (first | (go_at_call 39; refine H.out.mono ?_; rintro e w1 ⟨rfl, hg1⟩))
  go_ret
  exact ⟨rfl, hg1⟩
end Go.Proofs.YtkonfcgdokabaaaDoor
