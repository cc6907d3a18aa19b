/- FormatFloat of a whole number; the first place of a byte. -/
import Derived.Test.YtoachnjapfakdaaGreatDoorNdI
namespace Go.Proofs.YtoachnjapfakdaaGreatDoor
open Go Go.RowKit

/-- make([]byte, 0, n). -/
theorem wpList_make_cap {P : Program} {w : World} {ops : Array Oper} {rest : List Oper} {o : Oper} {a : Act} {Q : Exit → Act → World → Prop} {t : TypeId} (L : U8 P t) (hgd : o.guard = none) (l c : Operand)
    (ho : o.op = Op.makeSlice t l c) (kl kc : IntKind) (C : Int) (n : Nat) (hl : a.eval l = .int kl 0) (hc : a.eval c = .int kc C) (hC : C = (n : Int)) (hlim : n ≤ 140737488355328)
    (h : ∀ w', Own w.heap.size w' (.slice (some ⟨w.heap.size, 0, none⟩) 0 n) [] → Gr w w' → wpList P ops Q rest (a.put o.dst (.slice (some ⟨w.heap.size, 0, none⟩) 0 n)) w') : wpList P ops Q (o :: rest) a w := by
  obtain ⟨i, hi, hz0, hz1, hz2⟩ := info_parts L.info
  refine wpList_make_own w hgd l c t ho w.heap.size 5 i (.int .u8 0) 1 L.under hi hz0 hz1 kl kc C n hl hc hC (by rw [hz2]; omega) (by simp only [maxLen]; omega) (Nat.le_refl _) ?_
  intro w' hown hg
  exact h w' ⟨hown, byt_nil⟩ ((Gr.refl w).grown hg (fun k hk => by cases hk))

set_option maxRecDepth 100000 in
set_option maxHeartbeats 2000000 in
theorem fmtFloatI (neg : Bool) (N : Nat) (hN : 0 < N) (hN2 : N < 9007199254740992) (w : World) (hT : PowT w) (ht : Tab10 w) :
    Calls Tryz.prog 32 #[.float .f64 (fn neg N), .int .u8 101, .int .i64 (-1), .int .i64 64] w fun e w' => e = .returned (.string ⟨(Lib.bytesOf (expText neg (strip (letters N)) (Lib.nDigits N))).toArray⟩) ∧ Gr w w' := by
  have HF := fun D v w1 hg hv hD hown => Lib.hid (ftoa neg N hN hN2 D v w w1 hg hT ht hv hD hown)
  generalize expText neg (strip (letters N)) (Lib.nDigits N) = X at *
  generalize fn neg N = b at *
  clear hT ht
  go_enter Tryz.func32, Tryz.ntmps32
  go_wp2_with (first
    | (at_make; go_must (refine wpList_make_cap Go.Proofs.YtoachnjapfakdaaGreatDoor.u8 rfl _ _ rfl .i64 .i64 24 24 rfl rfl rfl (by omega) ?_); intro w1 ho1 hg1; have HO := Lib.hid ho1; have HG := Lib.hid hg1; have hlt : w.heap.size < w1.heap.size := (World.ownsRow.lt ho1.1 _ rfl).2; clear ho1 hg1)
    | (go_at_call 40; refine (HF _ _ _ HG.out rfl hlt HO.out).out.mono ?_; rintro e w5 ⟨u, rfl, hou, hg5⟩; have hcv := hou.rd.conv))
  go_ret
  exact ⟨rfl, hg5⟩

set_option maxRecDepth 100000 in
theorem fmtFloat (neg : Bool) (N : Nat) (hN : 0 < N) (hN2 : N < 9007199254740992) (w : World) (hT : PowT w) (ht : Tab10 w) :
    Calls Tryz.prog 20 #[.float .f64 (fn neg N), .int .u8 101, .int .i64 (-1), .int .i64 64] w fun e w' => e = .returned (.string ⟨(Lib.bytesOf (expText neg (strip (letters N)) (Lib.nDigits N))).toArray⟩) ∧ Gr w w' := by
  have HF := Lib.hid (fmtFloatI neg N hN hN2 w hT ht)
  generalize expText neg (strip (letters N)) (Lib.nDigits N) = X at *
  generalize fn neg N = b at *
  clear hT ht
  go_enter Tryz.func20, Tryz.ntmps20
  go_wp2_with (go_at_call 32; refine HF.out.mono ?_; rintro e w5 ⟨rfl, hg5⟩)
  go_ret
  exact ⟨rfl, hg5⟩

theorem zzAt (b o n c k : Nat) (xs : List Int) (x : Int) (w : World) (h : RdAt w b o xs) (hn : xs.length = n) (hm : c ≤ maxLen) (hc : n ≤ c) (hk : k < n) (hv : xs.getD k 0 = x) (hb : ∀ j, j < k → xs.getD j 0 ≠ x) :
    Calls Tryz.prog 21 #[.slice (some ⟨b, o, none⟩) n c, .int .u8 x] w fun e w' => e = .returned (.int .i64 (k : Nat)) ∧ w = w' := by
  have HB := Lib.hid hb
  have HN := Lib.hid hn
  have HV := Lib.hid hv
  have hm' : c ≤ 9223372036854775807 := by simp only [maxLen] at hm; omega
  clear hb hn hv hm
  go_enter Tryz.func21, Tryz.ntmps21
  go_wp2
  go_loopw [9] (fun i wr => ∃ j : Nat, i = .int .i64 (j : Nat) ∧ j ≤ k ∧ wr = w) (fun i _ => ((n : Int) - intOf i).toNat)
  case atStart => exact ⟨0, rfl, Nat.zero_le _, rfl⟩
  case round =>
    obtain ⟨j, rfl, hj, rfl⟩ := hrel
    have ck := h.cell j (by rw [HN.out]; omega)
    by_cases hjk : j = k
    · subst hjk
      rw [HV.out] at ck
      go_wp2
      go_ret
      exact ⟨rfl, rfl⟩
    · have hne := HB.out j (by omega)
      generalize xs.getD j 0 = y at *
      have hbe : (y == x) = false := by rw [beq_eq_false_iff_ne]; exact hne
      go_wp2
      go_roundw
      case rel => exact ⟨j + 1, by go_num, by omega, by first | rfl | trivial⟩
      case measure => first | (simp [intOf]; done) | (simp [intOf]; omega)

theorem zzNo (b o n c : Nat) (xs : List Int) (x : Int) (w : World) (h : RdAt w b o xs) (hn : xs.length = n) (hm : c ≤ maxLen) (hc : n ≤ c) (hb : ∀ j, j < n → xs.getD j 0 ≠ x) :
    Calls Tryz.prog 21 #[.slice (some ⟨b, o, none⟩) n c, .int .u8 x] w fun e w' => e = .returned (.int .i64 (-1)) ∧ w = w' := by
  have HB := Lib.hid hb
  have HN := Lib.hid hn
  have hm' : c ≤ 9223372036854775807 := by simp only [maxLen] at hm; omega
  clear hb hn hm
  go_enter Tryz.func21, Tryz.ntmps21
  go_wp2
  go_loopw [9] (fun i wr => ∃ j : Nat, i = .int .i64 (j : Nat) ∧ j ≤ n ∧ wr = w) (fun i _ => ((n : Int) - intOf i).toNat)
  case atStart => exact ⟨0, rfl, Nat.zero_le _, rfl⟩
  case round =>
    obtain ⟨j, rfl, hj, rfl⟩ := hrel
    by_cases hjk : j < n
    · have ck := h.cell j (by rw [HN.out]; omega)
      have hne := HB.out j (by omega)
      generalize xs.getD j 0 = y at *
      have hbe : (y == x) = false := by rw [beq_eq_false_iff_ne]; exact hne
      go_wp2
      go_roundw
      case rel => exact ⟨j + 1, by go_num, by omega, by first | rfl | trivial⟩
      case measure => first | (simp [intOf]; done) | (simp [intOf]; omega)
    · go_wp2
      go_ret
      exact ⟨rfl, rfl⟩
end Go.Proofs.YtoachnjapfakdaaGreatDoor
