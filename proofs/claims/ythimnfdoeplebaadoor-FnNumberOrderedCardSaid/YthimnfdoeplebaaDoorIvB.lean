/- zzPadded of what is not negative. -/
import Derived.Test.YthimnfdoeplebaaDoorIvA
import Derived.Lib.AppendIntMem
namespace Go.Proofs.YthimnfdoeplebaaDoor
open Go Go.RowKit

def Tab10 (w : World) : Prop := Lib.TabIs Tryd.prog w "internal/strconv.uint64pow10" .u64 Lib.pow10Tab
theorem Tab10.gr {w w' : World} (h : Tab10 w) (g : Gr w w') : Tab10 w' := Lib.tabBelow_of_tabIs h w' g

theorem fmtInt (n : Int) (h0 : -9223372036854775808 ≤ n) (h1 : n ≤ 9223372036854775807) (w : World) (h : Tab10 w) :
    Calls Tryd.prog 68 #[.int .i64 n, .int .i64 10] w fun e w' => e = .returned (.string (bs (Lib.itoa n))) ∧ Gr w w' := by
  refine (Tryd.strconv_FormatInt_10 n h0 h1 w h).mono fun e w' => ?_
  rintro ⟨rfl, k, os, rfl⟩
  exact ⟨rfl, Lib.below_grow _ w (Nat.le_refl _) k os⟩

theorem decDigits_all (n : Nat) : ∀ x ∈ Lib.decDigits n, x ≠ 45 := by
  induction n using Nat.strongRecOn with
  | _ n ih =>
    intro x hx
    have key : ∀ r, r < 10 → (UInt8.ofNat (48 + r)) ≠ 45 := by decide
    by_cases h : n < 10
    · rw [decDigits_lt h] at hx
      have hx := List.mem_singleton.1 hx; subst hx
      exact key n h
    · rw [decDigits_ge h] at hx
      rcases List.mem_append.1 hx with h1 | h1
      · exact ih (n / 10) (by omega) x h1
      · have h1 := List.mem_singleton.1 h1; subst h1
        exact key (n % 10) (by omega)
theorem decDigits_head (n : Nat) : ∃ d t, Lib.decDigits n = d :: t ∧ d ≠ 45 := by
  have hl := Lib.nDigits_pos n
  rw [← Lib.decDigits_length] at hl
  cases e : Lib.decDigits n with
  | nil => rw [e] at hl; simp at hl
  | cons d t => exact ⟨d, t, rfl, decDigits_all n d (by rw [e]; simp)⟩

theorem padded (n : Nat) (hn : n < 4611686018427387904) (w : World) (h : Tab10 w) :
    Calls Tryd.prog 66 #[.int .i64 n, .int .i64 2] w fun e w' => e = .returned (.string (bs (pad 2 (Lib.decDigits n)))) ∧ Gr w w' := by
  have hf := fmtInt n (by omega) (by omega) w h
  rw [Lib.itoa_nonneg] at hf
  obtain ⟨d, t, hdt, hd⟩ := decDigits_head n
  have hlen : (d :: t).length ≤ 22 := by
    rw [← hdt, Lib.decDigits_length]
    have := Lib.nDigits_le20 n (by omega)
    omega
  rw [hdt] at hf ⊢
  have hsz := bs_size (d :: t)
  rw [List.length_cons] at hsz
  have hsz2 : ((bs (d :: t)).size : Int) = t.length + 1 := by rw [hsz]; simp
  have h45 : ((((bs (d :: t))[0]'(by rw [hsz]; omega)).toNat : Int) == 45) = false := by
    rw [beq_eq_false_iff_ne]
    intro e
    apply hd
    have e2 : d.toNat = 45 := by
      have : ((bs (d :: t))[0]'(by rw [hsz]; omega)) = d := rfl
      rw [this] at e
      omega
    exact UInt8.toNat_inj.1 e2
  clear hdt hd
  go_enter Tryd.func66, Tryd.ntmps66
  go_wp2_with (first | (go_at_call 68; refine hf.mono ?_; rintro e w1 ⟨rfl, hg1⟩))
  go_loopw [5] (fun s wr => ∃ l : List UInt8, s = .string (bs l) ∧ pad 2 l = pad 2 (d :: t) ∧ l.length ≤ 22 ∧ w1 = wr) (fun s _ => 2 - lenS s)
  case atStart => exact ⟨d :: t, rfl, rfl, hlen, rfl⟩
  case round =>
    obtain ⟨l, rfl, hT, hl, rfl⟩ := hrel
    have hszl := bs_size l
    by_cases hc : l.length < 2
    · have h48 : ((⟨#[48]⟩ : ByteArray) ++ bs l) = bs (48 :: l) := bs_append [48] l
      have hp : pad 2 (48 :: l) = pad 2 l := by
        unfold pad
        obtain ⟨k, hk⟩ : ∃ k, 2 - l.length = k + 1 := ⟨2 - l.length - 1, by omega⟩
        rw [hk, List.length_cons, show 2 - (l.length + 1) = k by omega, List.replicate_succ', List.append_assoc]
        rfl
      have hs1 : (1 : Nat) + l.length ≤ 9223372036854775807 := by omega
      have hme : 2 - lenS (.string (bs (48 :: l))) < 2 - lenS (.string (bs l)) := by simp only [lenS, bs_size, List.length_cons]; omega
      have hmeet : ∃ l', Value.string (bs (48 :: l)) = Value.string (bs l') ∧ pad 2 l' = pad 2 (d :: t) ∧ l'.length ≤ 22 ∧ True := ⟨48 :: l, rfl, hp.trans hT, by simp; omega, trivial⟩
      go_wp2
      exact ⟨hmeet, hme⟩
    · have h0 : ((⟨#[]⟩ : ByteArray) ++ bs l) = bs l := bs_append [] l
      have hl2 : pad 2 l = l := by unfold pad; rw [show 2 - l.length = 0 by omega]; rfl
      have HT := Lib.hid hT
      have H0 := Lib.hid h0
      have HL := Lib.hid hl2
      clear hT h0 hl2
      go_wp2
      go_ret
      rw [H0.out, ← HT.out, HL.out]
      exact ⟨rfl, hg1⟩
end Go.Proofs.YthimnfdoeplebaaDoor
