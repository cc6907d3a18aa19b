/- The laws' fixed example, and the numbers of the seven names. -/
import Derived.Test.YtkonfcgdokabaaaDoorCfB
namespace Go.Proofs.YtkonfcgdokabaaaDoor
open Go Go.RowKit

set_option maxRecDepth 100000 in
theorem awakeC (w : World) (ht : Tab10 w) : Calls Tryd.prog 21 #[] w fun e w' => e = .returned (.bool true) ∧ Gr w w' := by
  have HN := network ⟨#[]⟩ ⟨#[97]⟩ 5 (by omega) w ht (by decide)
  rw [show joinS ⟨#[97]⟩ (bs (Lib.itoa 5)) = ⟨#[97, 58, 53]⟩ by decide +kernel] at HN
  have HN := Lib.hid HN
  have HP := fun w => Lib.hid (show Calls Tryd.prog 26 #[.string ⟨#[115, 121, 115, 100, 98, 97]⟩] w fun e w' => e = .returned (.int .i64 32) ∧ Gr w w' from privilege [115, 121, 115, 100, 98, 97] (by decide) (by decide) w)
  have hq : ((⟨#[97, 58, 53]⟩ : ByteArray).toList == (⟨#[97, 58, 53]⟩ : ByteArray).toList) = true := by simp
  go_enter Tryd.func21, Tryd.ntmps21
  go_wp2_with (first
    | (go_at_call 22; go_must (with_reducible refine HN.out.mono ?_); rintro e w1 ⟨rfl, hg1⟩)
    | (go_at_call 26; go_must (with_reducible refine (HP w1).out.mono ?_); rintro e w2 ⟨rfl, hg2⟩))
  go_ret
  exact ⟨rfl, hg1.trans hg2⟩

/-- The names of the privileges. -/
def privName : Nat → List UInt8
  | 0 => [83, 89, 83, 68, 66, 65]
  | 1 => [83, 89, 83, 79, 80, 69, 82]
  | 2 => [83, 89, 83, 65, 83, 77]
  | 3 => [83, 89, 83, 66, 65, 67, 75, 85, 80]
  | 4 => [83, 89, 83, 68, 71]
  | 5 => [83, 89, 83, 75, 77]
  | _ => [83, 89, 83, 82, 65, 67]

def privNo : Nat → Int
  | 0 => 32
  | 1 => 64
  | 2 => 4194304
  | 3 => 16777216
  | 4 => 33554432
  | 5 => 67108864
  | _ => 134217728

theorem seven {p : Nat → Prop} (h0 : p 0) (h1 : p 1) (h2 : p 2) (h3 : p 3) (h4 : p 4) (h5 : p 5) (h6 : p 6) (k : Nat) (hk : k < 7) : p k := by
  match k, hk with
  | 0, _ => exact h0
  | 1, _ => exact h1
  | 2, _ => exact h2
  | 3, _ => exact h3
  | 4, _ => exact h4
  | 5, _ => exact h5
  | 6, _ => exact h6
theorem arr_eq (A B : List UInt8) : ((⟨A.toArray⟩ : ByteArray).toList == (⟨B.toArray⟩ : ByteArray).toList) = decide (A = B) := by
  have e : ∀ L : List UInt8, (⟨L.toArray⟩ : ByteArray).toList = L := fun L => by simp
  rw [e, e]
  by_cases h : A = B
  · subst h; simp
  · rw [decide_eq_false h, beq_eq_false_iff_ne]; exact h
theorem low_apart : ∀ j k : Fin 7, (privName j).map lowB = (privName k).map lowB → j = k := by decide +kernel
def numsBlk : Array Value := #[.int .i64 32, .int .i64 64, .int .i64 4194304, .int .i64 16777216, .int .i64 33554432, .int .i64 67108864, .int .i64 134217728]
def namesBlk : Array Value := #[.string ⟨#[83, 89, 83, 68, 66, 65]⟩, .string ⟨#[83, 89, 83, 79, 80, 69, 82]⟩, .string ⟨#[83, 89, 83, 65, 83, 77]⟩, .string ⟨#[83, 89, 83, 66, 65, 67, 75, 85, 80]⟩, .string ⟨#[83, 89, 83, 68, 71]⟩, .string ⟨#[83, 89, 83, 75, 77]⟩, .string ⟨#[83, 89, 83, 82, 65, 67]⟩]

theorem namesC (w : World) : Calls Tryd.prog 24 #[] w fun e w' => e = .returned (.slice (some ⟨w.heap.size, 0, none⟩) 7 7) ∧ w' = w.alloc (.cells namesBlk 9) := by
  unfold namesBlk
  go_enter Tryd.func24, Tryd.ntmps24
  go_wp2
  go_ret
  exact ⟨rfl, rfl⟩

set_option maxRecDepth 100000 in
theorem privWalk (k : Nat) (hk : k < 7) (N M : Nat → ByteArray) (Q : Nat → Int) (w : World)
    (HL : ∀ j, j < 7 → ∀ w, Hid (Calls Tryd.prog 30 #[.string (N j)] w fun e w' => e = .returned (.string (M j)) ∧ Gr w w'))
    (HE : ∀ j, j < 7 → Hid (((M j).toList == (M k).toList) = decide (j = k)))
    (HC : ∀ j, j < 7 → Hid (numsBlk[j]? = some (.int .i64 (Q j)))) (HD : ∀ j, j < 7 → Hid (namesBlk[j]? = some (.string (N j)))) :
    Calls Tryd.prog 25 #[.string (N k)] w fun e w' => e = .returned (.int .i64 (Q k)) ∧ Gr w w' := by
  have H1 := fun j (hj : j < 7) wr (g : Gr ((w.alloc (.cells numsBlk 3)).alloc (.cells namesBlk 9)) wr) => Lib.hid (g.cell ((((Gr.refl _).alloc (.cells namesBlk 9)).cell ((blk_cell (heap_new_at w (.cells numsBlk 3) rfl) j).trans (HC j hj).out))))
  have H2 := fun j (hj : j < 7) wr (g : Gr ((w.alloc (.cells numsBlk 3)).alloc (.cells namesBlk 9)) wr) => Lib.hid (g.cell ((blk_cell (heap_new_at (w.alloc (.cells numsBlk 3)) (.cells namesBlk 9) (show w.heap.size + 1 = _ by simp)) j).trans (HD j hj).out))
  have HN := fun w => Lib.hid (namesC w)
  unfold numsBlk at H1 H2
  clear HC HD
  have HK := Lib.hid hk
  clear hk
  have HG0 := Lib.hid (show Gr w ((w.alloc (.cells numsBlk 3)).alloc (.cells namesBlk 9)) from ((Gr.refl _).alloc _).alloc _)
  unfold numsBlk at HG0
  go_enter Tryd.func25, Tryd.ntmps25
  go_wp2_with (first | (go_at_call 24; go_must (with_reducible refine (HN _).out.mono ?_); rintro e w0 ⟨rfl, rfl⟩))
  generalize ((w.alloc _).alloc _) = W at *
  go_loopw [9] (fun i wr => ∃ j : Nat, i = .int .i64 j ∧ j ≤ k ∧ Gr W wr) (fun i _ => ((7 : Int) - intOf i).toNat)
  case atStart => exact ⟨0, rfl, Nat.zero_le _, Gr.refl _⟩
  case round =>
    obtain ⟨j, rfl, hjk, hgr⟩ := hrel
    have hk7 := HK.out
    have hj7 : j < 7 := by omega
    have c1 := (H1 j hj7 _ hgr).out
    have c2 := (H2 j hj7 _ hgr).out
    have e1 := (HE j hj7).out
    have HGR := Lib.hid hgr
    by_cases h : j = k
    · subst h
      rw [decide_eq_true rfl] at e1
      clear hjk
      go_wp2_with (first
        | (go_at_call 30; go_must (with_reducible refine (HL j hj7 _).out.mono ?_); rintro e w1 ⟨rfl, hg1⟩; have HGR := Lib.hid (Gr.trans HGR.out hg1); have c1 := (H1 j hj7 _ HGR.out).out))
      go_ret
      exact ⟨rfl, HG0.out.trans HGR.out⟩
    · rw [decide_eq_false h] at e1
      go_wp2_with (first
        | (go_at_call 30; with_reducible refine (HL j hj7 _).out.mono ?_; rintro e w1 ⟨rfl, hg1⟩; have HGR := Lib.hid (Gr.trans HGR.out hg1))
        | (go_at_call 30; with_reducible refine (HL k hk7 _).out.mono ?_; rintro e w1 ⟨rfl, hg2⟩; have HGR := Lib.hid (Gr.trans HGR.out hg2)))
      go_roundw
      case rel => exact ⟨j + 1, by go_num, by omega, HGR.out⟩
      case measure => first | (simp [intOf]; done) | (simp [intOf]; omega)
theorem privNum (k : Nat) (hk : k < 7) (w : World) : Calls Tryd.prog 25 #[.string ⟨(privName k).toArray⟩] w fun e w' => e = .returned (.int .i64 (privNo k)) ∧ Gr w w' := by
  have hlen : ∀ j, j < 7 → (privName j).length ≤ 4000000000 := seven (by decide) (by decide) (by decide) (by decide) (by decide) (by decide) (by decide)
  have hap := fun j (hj : j < 7) => low_apart ⟨j, hj⟩ ⟨k, hk⟩
  simp only [Fin.mk.injEq] at hap
  refine privWalk k hk (fun j => ⟨(privName j).toArray⟩) (fun j => ⟨((privName j).map lowB).toArray⟩) privNo w (fun j hj w => Lib.hid (lower (privName j) (hlen j hj) w)) (fun j hj => Lib.hid ?_) (fun j hj => Lib.hid ?_) (fun j hj => Lib.hid ?_)
  · refine (arr_eq _ _).trans ?_
    by_cases h : j = k
    · subst h; simp
    · rw [decide_eq_false h, decide_eq_false (fun e => h (hap j hj e))]
  · exact seven (p := fun j => numsBlk[j]? = some (.int .i64 (privNo j))) rfl rfl rfl rfl rfl rfl rfl j hj
  · exact seven (p := fun j => namesBlk[j]? = some (.string ⟨(privName j).toArray⟩)) rfl rfl rfl rfl rfl rfl rfl j hj
end Go.Proofs.YtkonfcgdokabaaaDoor
