/- fmtEFG: the letters of a number with an exponent. -/
import Derived.Test.YtoachnjapfakdaaGreatDoorNdF
namespace Go.Proofs.YtoachnjapfakdaaGreatDoor
open Go Go.RowKit

/-- What a row of the call's own keeps while it grows: beside it stands the buffer H with the letters ds. -/
structure Kp (a : World) (H : Nat) (ds : List Int) (w : World) (v : Value) (xs : List Int) : Prop where
  own : Own a.heap.size w v xs
  gr : Gr a w
  rd : RdAt w H 0 ds
  ne : v.ownBlock ≠ some H
  lt : H < w.heap.size
theorem Kp.alloc {a : World} {H : Nat} {ds : List Int} {w : World} {v : Value} {xs : List Int} (k : Kp a H ds w v xs) (o : Obj) : Kp a H ds (w.alloc o) v xs :=
  ⟨k.own.gr ((Gr.refl _).alloc o), k.gr.alloc o, k.rd.gr ((Gr.refl _).alloc o), k.ne, by have := k.lt; simp; omega⟩
theorem Kp.grown {a : World} {H : Nat} {ds : List Int} {w w' : World} {v v' : Value} {xs ys : List Int} (k : Kp a H ds w v xs) (h2 : Own a.heap.size w' v' ys) (h3 : w.grownBy w' v.ownBlock) (h4 : v'.ownBlock = v.ownBlock ∨ v'.ownBlock = some w.heap.size) : Kp a H ds w' v' ys := by
  have hlt := k.lt
  refine ⟨h2, k.gr.grown h3 k.own.row, ⟨fun i hi => grown_cell h3 (k.rd.cell i hi) (fun h => k.ne h.symm), k.rd.byt⟩, ?_, Nat.lt_of_lt_of_le hlt h3.size⟩
  rcases h4 with h | h
  · rw [h]; exact k.ne
  · rw [h]; intro h5; injection h5 with h5; omega
theorem wpList_kp {P : Program} {a w : World} {H : Nat} {ds : List Int} {ops : Array Oper} {rest : List Oper} {o : Oper} {c : Act} {Q : Exit → Act → World → Prop} {t : TypeId} (L : U8 P t) (hgd : o.guard = none) (s x : Operand)
    (ho : o.op = .call { callee := .builtin .append, args := #[s, x], argTypes := #[t, t] }) {v : Value} {xs : List Int} (hs : c.eval s = v) (k : Kp a H ds w v xs)
    {u : Value} {ys : List Int} (hx : c.eval x = u) (hr : Rd w u ys) (hlim : xs.length + ys.length ≤ 140737488355328)
    (h : ∀ v' w', Kp a H ds w' v' (xs ++ ys) → wpList P ops Q rest (c.put o.dst v') w') : wpList P ops Q (o :: rest) c w :=
  wpList_append_bytes L hgd s x ho hs k.own hx hr hlim k.gr.size fun v' w' h2 h3 h4 => h v' w' (k.grown h2 h3 h4)

theorem rd_one (w : World) (c : Int) (hc : 0 ≤ c ∧ c < 256) : Rd (w.alloc (.cells #[.int .u8 c] 5)) (.slice (some ⟨w.heap.size, 0, none⟩) 1 1) [c] :=
  OwnAt.rd (OwnAt.fresh' w [c] #[.int .u8 c] 1 w.heap.size (byt_one hc) rfl rfl (by simp [maxLen]) rfl)
theorem rd_two (w : World) (c d : Int) (hc : 0 ≤ c ∧ c < 256) (hd : 0 ≤ d ∧ d < 256) : Rd (w.alloc (.cells #[.int .u8 c, .int .u8 d] 5)) (.slice (some ⟨w.heap.size, 0, none⟩) 2 2) [c, d] :=
  OwnAt.rd (OwnAt.fresh' w [c, d] #[.int .u8 c, .int .u8 d] 2 w.heap.size (by intro z hz; simp at hz; omega) rfl rfl (by simp [maxLen]) rfl)

/-- The text of the digits X with the exponent n - 1. -/
def expText (neg : Bool) (X : List Int) (n : Nat) : List Int :=
  (if neg then [45] else []) ++ [X.getD 0 0] ++ (if X.length ≤ 1 then [] else [46] ++ X.drop 1) ++ [101] ++ [43] ++ [48 + (n - 1 : Int) / 10, 48 + (n - 1 : Int) % 10]

set_option maxRecDepth 100000 in
set_option maxHeartbeats 2000000 in
theorem fmtE (a w : World) (v : Value) (H S n : Nat) (ds X : List Int) (neg : Bool) (k : Kp a H ds w v []) (hS : 1 ≤ S) (hS2 : S ≤ 18) (hX : ds.take S = X) (hXl : X.length = S) (hl : S ≤ ds.length) (hn : 1 ≤ n) (hn2 : n ≤ 18) :
    Calls Tryz.prog 53 #[v, .bool neg, .slice (some ⟨H, 0, none⟩) 32 32, .int .i64 (n : Nat), .int .i64 (S : Nat), .int .i64 ((S : Int) - 1), .int .u8 101, .bool true] w fun e w' =>
      ∃ u, e = .returned u ∧ Own a.heap.size w' u (expText neg X n) ∧ Gr a w' := by
  obtain ⟨x0, hx0⟩ : ∃ x, X.getD 0 0 = x := ⟨_, rfl⟩
  obtain ⟨F, hF⟩ : ∃ F, expText neg X n = F := ⟨_, rfl⟩
  rw [hF]
  have hXds : ∀ i, i < S → X.getD i 0 = ds.getD i 0 := fun i hi => by
    rw [← hX, List.getD_eq_getElem?_getD, List.getD_eq_getElem?_getD, List.getElem?_take_of_lt hi]
  have hb0 : 0 ≤ x0 ∧ x0 < 256 := by rw [← hx0, hXds 0 (by omega)]; exact byt_getD k.rd.byt 0
  have ck := k.rd.cell 0 (by omega)
  rw [Nat.zero_add, ← hXds 0 (by omega), hx0] at ck
  have hsub : ∀ w', RdAt w' H 0 ds → 1 < S → Rd w' (.slice (some ⟨H, 1, none⟩) (S - 1) 31) (X.drop 1) := fun w' hr h1 => by
    have h := (hr.take S).drop 1
    rw [hX, Nat.zero_add] at h
    exact h.rd (by rw [List.length_drop, hXl]) (by omega) (by simp [maxLen])
  have hck : ∀ w', RdAt w' H 0 ds → w'.cell? ⟨H, 0, none⟩ = some (.int .u8 x0) := fun w' hr => by
    have c := hr.cell 0 (by omega)
    rw [Nat.zero_add, ← hXds 0 (by omega), hx0] at c; exact c
  have CK := Lib.hid hck
  clear hck
  obtain ⟨E, hE⟩ : ∃ E : Int, (n : Int) - 1 = E := ⟨_, rfl⟩
  have hE0 : 0 ≤ E := by omega
  have hE1 : E ≤ 17 := by omega
  have hdl : (X.drop 1).length ≤ 18 := by rw [List.length_drop]; omega
  unfold expText at hF
  rw [hx0, hXl, hE] at hF
  rw [← hF]
  have HK := Lib.hid k
  have HSUB := Lib.hid hsub
  generalize X.drop 1 = R at *
  clear hF hx0 hXds hsub hX hXl k
  have hcN : (E < 10) = (E ≤ 9) := by apply propext; omega
  by_cases hS1 : S ≤ 1
  · obtain rfl : S = 1 := by omega
    rw [if_pos (Nat.le_refl _)]
    have hS2' : True := trivial
    by_cases h10 : E < 10
    · rcases neg with _ | _
      all_goals
        go_enter Tryz.func53, Tryz.ntmps53
        go_wp2_with (at_builtin; go_must (refine wpList_kp Go.Proofs.YtoachnjapfakdaaGreatDoor.u8 rfl _ _ rfl rfl (by first | exact HK.out.alloc _ | exact HK.out) rfl (by first | exact rd_one _ _ (by omega) | exact rd_two _ _ _ (by omega) (by omega) | exact HSUB.out _ HK.out.rd hS2') (by first | (simp; done) | (simp; omega)) ?_); intro v3 w3 hk3; replace HK := Lib.hid hk3; clear hk3; replace ck := CK.out _ HK.out.rd)
        go_ret
        exact ⟨_, rfl, (congrArg (Own a.heap.size w3 v3) (by simp; omega)).mp HK.out.own, HK.out.gr⟩
    · rcases neg with _ | _
      all_goals
        go_enter Tryz.func53, Tryz.ntmps53
        go_wp2_with (at_builtin; go_must (refine wpList_kp Go.Proofs.YtoachnjapfakdaaGreatDoor.u8 rfl _ _ rfl rfl (by first | exact HK.out.alloc _ | exact HK.out) rfl (by first | exact rd_one _ _ (by omega) | exact rd_two _ _ _ (by omega) (by omega) | exact HSUB.out _ HK.out.rd hS2') (by first | (simp; done) | (simp; omega)) ?_); intro v3 w3 hk3; replace HK := Lib.hid hk3; clear hk3; replace ck := CK.out _ HK.out.rd)
        go_ret
        exact ⟨_, rfl, (congrArg (Own a.heap.size w3 v3) (by simp; omega)).mp HK.out.own, HK.out.gr⟩
  · have hS2' : 1 < S := by omega
    rw [if_neg hS1]
    by_cases h10 : E < 10
    · rcases neg with _ | _
      all_goals
        go_enter Tryz.func53, Tryz.ntmps53
        go_wp2_with (at_builtin; go_must (refine wpList_kp Go.Proofs.YtoachnjapfakdaaGreatDoor.u8 rfl _ _ rfl rfl (by first | exact HK.out.alloc _ | exact HK.out) rfl (by first | exact rd_one _ _ (by omega) | exact rd_two _ _ _ (by omega) (by omega) | exact HSUB.out _ HK.out.rd hS2') (by first | (simp; done) | (simp; omega)) ?_); intro v3 w3 hk3; replace HK := Lib.hid hk3; clear hk3; replace ck := CK.out _ HK.out.rd)
        refine wp_loop_rounds 2 ?_
        rw [rounds_succ]
        go_wp2_with (at_builtin; go_must (refine wpList_kp Go.Proofs.YtoachnjapfakdaaGreatDoor.u8 rfl _ _ rfl rfl (by first | exact HK.out.alloc _ | exact HK.out) rfl (by first | exact rd_one _ _ (by omega) | exact rd_two _ _ _ (by omega) (by omega) | exact HSUB.out _ HK.out.rd hS2') (by first | (simp; done) | (simp; omega)) ?_); intro v3 w3 hk3; replace HK := Lib.hid hk3; clear hk3; replace ck := CK.out _ HK.out.rd)
        go_ret
        exact ⟨_, rfl, (congrArg (Own a.heap.size w3 v3) (by simp; omega)).mp HK.out.own, HK.out.gr⟩
    · rcases neg with _ | _
      all_goals
        go_enter Tryz.func53, Tryz.ntmps53
        go_wp2_with (at_builtin; go_must (refine wpList_kp Go.Proofs.YtoachnjapfakdaaGreatDoor.u8 rfl _ _ rfl rfl (by first | exact HK.out.alloc _ | exact HK.out) rfl (by first | exact rd_one _ _ (by omega) | exact rd_two _ _ _ (by omega) (by omega) | exact HSUB.out _ HK.out.rd hS2') (by first | (simp; done) | (simp; omega)) ?_); intro v3 w3 hk3; replace HK := Lib.hid hk3; clear hk3; replace ck := CK.out _ HK.out.rd)
        refine wp_loop_rounds 2 ?_
        rw [rounds_succ]
        go_wp2_with (at_builtin; go_must (refine wpList_kp Go.Proofs.YtoachnjapfakdaaGreatDoor.u8 rfl _ _ rfl rfl (by first | exact HK.out.alloc _ | exact HK.out) rfl (by first | exact rd_one _ _ (by omega) | exact rd_two _ _ _ (by omega) (by omega) | exact HSUB.out _ HK.out.rd hS2') (by first | (simp; done) | (simp; omega)) ?_); intro v3 w3 hk3; replace HK := Lib.hid hk3; clear hk3; replace ck := CK.out _ HK.out.rd)
        go_ret
        exact ⟨_, rfl, (congrArg (Own a.heap.size w3 v3) (by simp; omega)).mp HK.out.own, HK.out.gr⟩
end Go.Proofs.YtoachnjapfakdaaGreatDoor
