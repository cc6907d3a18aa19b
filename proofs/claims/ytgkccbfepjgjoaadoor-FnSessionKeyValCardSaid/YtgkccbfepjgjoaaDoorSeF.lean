/- A session's reader of a CLR: a buffer that is filled part by part. -/
import Derived.Test.YtgkccbfepjgjoaaDoorSeE
import Derived.Lib.Buffer
import Derived.Lib.BufferWrite
import Derived.Lib.BufferOwn
import Derived.Deep.LoopGhost
import Derived.Deep.CutRange
namespace Go.Proofs.YtgkccbfepjgjoaaDoor
open Go Go.RowKit

/-- A buffer of the call's own in block t that holds bytes. -/
def Bf (B t : Nat) (xs : List Int) (w : World) : Prop := Lib.IsBuffer 79 5 B t (xs.map (Value.int .u8)) w ∧ Byt xs

theorem one_cells' (ys : List Int) : ∀ u ∈ ys.map (Value.int .u8), u.oneCell' = true := one_cells ys

/-- Write of no bytes. -/
theorem write_none {B b : Nat} {xs : List Int} {w : World} (p : Option Addr) (c : Nat) (hb : Bf B b xs w) (_hB : B ≤ w.heap.size) :
    Calls Tryd.prog 74 #[.pointer (some ⟨b, 0, none⟩), .slice p 0 c] w fun e w' => e = .returned (.tuple #[.int .i64 0, .nilIface]) ∧ Bf B b xs w' ∧ Below B w w' := by
  obtain ⟨hb, hx⟩ := hb
  have h0 := hb
  obtain ⟨hBb, v0, lr, hbk, hown, hne⟩ := hb
  have c2 : w.cell? ⟨b, 2, none⟩ = some (.int .i8 lr) := (blk_cell hbk 2).trans rfl
  have f2 := blk_free hbk 2
  have hI : Lib.IsBuffer 79 5 B b (xs.map (Value.int .u8)) (w.setCell ⟨b, 2, none⟩ (.int .i8 0)) := by
    refine ⟨hBb, v0, 0, ?_, hown.kept (Lib.grownBy_setCell w b 2 _) (Or.inr hne), hne⟩
    rw [blk_set hbk]; rfl
  have hbel0 : Below B w (w.setCell ⟨b, 2, none⟩ (.int .i8 0)) := (Below.refl B w).setCell (p := ⟨b, 2, none⟩) hBb _
  have hce : ∀ d dLen dCap W, (Builtin.copy_ #[24, 24] 3 #[.slice d dLen dCap, .slice p 0 c]).run Tryd.prog W = .ok (goInt 0) W := fun d dLen dCap W => run_copy_none W 24 24 3 5 d p dLen dCap 0 c Tryd.underlying24 u8size (by simp)
  have HT := fun W hW => Lib.hid (Tryd.Buffer_tryGrow_own B b 0 (xs.map (Value.int .u8)) W hW)
  have HI := Lib.hid hI
  have HB0 := Lib.hid hbel0
  clear hI hbel0 h0 hown hbk hne
  go_enter Tryd.func74, Tryd.ntmps74
  go_wp2_with (first | (go_at_call 89; go_must (refine (HT _ HI.out).out.mono ?_)))
  rintro e W1 (⟨rfl, ys, hxl, hI2, hbel, hk, hg⟩ | ⟨rfl, rfl, hnr⟩)
  · have hx0 : ys = [] := List.eq_nil_of_length_eq_zero hxl
    subst hx0
    rw [List.append_nil] at hI2
    obtain ⟨-, v1, lr1, hbk1, hown1, hne1⟩ := id hI2
    have d0 : W1.cell? ⟨b, 0, none⟩ = some v1 := (blk_cell hbk1 0).trans rfl
    have hlen : (xs.map (Value.int .u8)).length = xs.length := by simp
    rw [hlen] at hown1 ⊢
    have HI2 := Lib.hid hI2
    have HB2 := Lib.hid hbel
    clear hI2 hbel hk hg hbk1
    rcases hown1.2 with ⟨rfl, hn0⟩ | ⟨g, cap, cur, rfl, _, _, hnc, hcm, _⟩
    · rw [hn0]
      clear hown1
      go_wp2
      go_ret2
      exact ⟨rfl, ⟨HI2.out, hx⟩, HB0.out.trans HB2.out⟩
    · clear hown1
      simp only [maxLen] at hcm
      go_wp2
      all_goals
        go_ret2
        exact ⟨rfl, ⟨HI2.out, hx⟩, HB0.out.trans HB2.out⟩
  · obtain ⟨_, _, _, _, hlt⟩ := hnr
    omega

/-- Write of bytes that lie ahead of the buffer. -/
theorem write_lo {B b : Nat} {xs l : List Int} {w : World} {v : Value} (hb : Bf B b xs w) (hB : B ≤ w.heap.size) (hv : Rd w v l) (hlo : LoV B v) (hlim : xs.length + l.length ≤ 140737488355328) :
    Calls Tryd.prog 74 #[.pointer (some ⟨b, 0, none⟩), v] w fun e w' => e = .returned (.tuple #[.int .i64 l.length, .nilIface]) ∧ Bf B b (xs ++ l) w' ∧ Below B w w' := by
  obtain ⟨p, c, rfl, hc, hm, hnil, hbi, hby⟩ := hv
  by_cases h0 : l.length = 0
  · obtain rfl : l = [] := List.eq_nil_of_length_eq_zero h0
    rw [List.append_nil]
    exact write_none p c hb hB
  · obtain ⟨g0, o0, rfl, hcell⟩ := hbi (by omega)
    have hne : g0 ≠ b := by
      have := hlo _ _ _ rfl
      have h2 := hb.1.1
      simp only at this
      omega
    refine (Tryd.Buffer_Write_any B b _ (l.map (Value.int .u8)) ⟨g0, o0, none⟩ _ c w hb.1 hB (one_cells _) (by simp) hne ?_ (one_cells _) (by simpa using hlim)).mono fun e w' => ?_
    · exact src_cells ⟨hcell, hby⟩
    · rintro ⟨h1, h2, h3, _⟩
      exact ⟨h1, ⟨by rw [List.map_append]; exact h2, byt_append hb.2 hby⟩, h3⟩

theorem bufBytes {B b : Nat} {xs : List Int} {w : World} (hb : Bf B b xs w) :
    Calls Tryd.prog 46 #[.pointer (some ⟨b, 0, none⟩)] w fun e w' => ∃ v, e = .returned v ∧ Own B w' v xs ∧ Gr w w' := by
  refine (Tryd.Buffer_Bytes B b _ w hb.1).mono fun e w' => ?_
  rintro ⟨v, rfl, h1, n, rfl⟩
  rw [List.length_map] at h1
  exact ⟨v, rfl, ⟨h1, hb.2⟩, (Gr.refl w).drewN n⟩

/-- How many bytes the next part has. -/
def partN (big : Bool) (r : List Int) : Option (Int × List Int) := if big = true then rdPk r else match r with | [] => none | b :: t => some (b, t)

/-- What the parts of a CLR are read as: the derivations are those inputs of which something is said. -/
inductive Parts (big : Bool) : List Int → Option (List Int × List Int) → Prop
  | torn {r} : (big = true → PkShort r) → partN big r = none → Parts big r none
  | last {r t} : (big = true → PkShort r) → partN big r = some (0, t) → Parts big r (some ([], t))
  | short {r t} {n : Nat} : (big = true → PkShort r) → partN big r = some ((n : Int), t) → 1 ≤ n → n ≤ 1152921504606846976 → t.length < n → Parts big r none
  | more {r t o} {n : Nat} : (big = true → PkShort r) → partN big r = some ((n : Int), t) → 1 ≤ n → n ≤ t.length → Parts big (t.drop n) o → Parts big r (o.map fun p => (t.take n ++ p.1, p.2))

theorem partN_len {big : Bool} {r t : List Int} {z : Int} (h : partN big r = some (z, t)) : t.length < r.length := by
  unfold partN at h
  split at h
  · cases r with
    | nil => cases h
    | cons b u =>
      simp only [rdPk] at h
      split at h
      · injection h with h
        injection h with _ h
        subst h
        simp
        omega
      · cases h
  · cases r with
    | nil => cases h
    | cons b u =>
      injection h with h
      injection h with _ h
      subst h
      simp
end Go.Proofs.YtgkccbfepjgjoaaDoor
