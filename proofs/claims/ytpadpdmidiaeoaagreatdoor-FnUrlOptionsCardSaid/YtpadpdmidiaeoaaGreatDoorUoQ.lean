/- Towards the law: the map of names, rows beside it, sorting; plain. -/
import Derived.Test.YtpadpdmidiaeoaaGreatDoorUoP
import Derived.Maps.OwnOps
namespace Go.Proofs.YtpadpdmidiaeoaaGreatDoor
open Go Go.RowKit Go.Lib Go.Maps

/-! ### The map of the names met -/
def mB (l : List Op) : DataW Unit := l.foldl (fun D x => D.put (keyD x) (.lit (.bool true))) (.map [])
theorem mB_snoc (l : List Op) (x : Op) : mB (l ++ [x]) = (mB l).put (keyD x) (.lit (.bool true)) := by simp [mB]
theorem mB_map (l : List Op) : IsMap (mB l) := by
  have : ∀ (l : List Op) (D : DataW Unit), IsMap D → IsMap (l.foldl (fun D x => D.put (keyD x) (.lit (.bool true))) D) := by
    intro l
    induction l with
    | nil => exact fun D h => h
    | cons x l ih => exact fun D h => ih _ (h.put _ _)
  exact this l _ isMap_empty
theorem mB_at (l : List Op) (x : Op) : (mB l).atKey (keyD x) (.lit (.bool false)) = .lit (.bool (decide (x.n ∈ l.map Op.n))) := by
  induction l using snoc_ind with
  | h0 => rfl
  | h1 l y ih =>
    rw [mB_snoc]
    by_cases e : keyD x = keyD y
    · have e2 : x.n = y.n := by injection e
      rw [e, atKey_put_same (mB_map l) (show WideAt.IsKeyLit (keyD y) from trivial)]
      simp [e2]
    · have e2 : x.n ≠ y.n := fun h => e (by simp [keyD, h])
      rw [atKey_put_other e, ih]
      simp [e2]
def OwnB (w : World) (b n : Nat) (l : List Op) : Prop := w.ownsMap Tryz.prog 9 (plainElem (H := Unit) Tryz.prog 4) b n (mB l)
theorem OwnB.gr {a w : World} {b n : Nat} {l : List Op} (h : OwnB a b n l) (g : Gr a w) : OwnB w b n l := by
  obtain ⟨es, clock, hb, rest⟩ := h
  exact ⟨es, clock, g.heap hb, rest⟩
set_option maxRecDepth 100000 in
theorem OwnB.look {w : World} {b n : Nat} {l : List Op} (h : OwnB w b n l) (x : Op) (hx : x.n.length ≤ maxLen) :
    (Instr.lookup 27 (.map (some b)) (.string (bs x.n)) false).run Tryz.prog w = .ok (.bool (decide (x.n ∈ l.map Op.n))) w := by
  have hk : keyOf Tryz.prog 9 (.string (bs x.n)) = some (keyD x) := WideMaps.keyOf_string_mk Tryz.underlying9 (by rw [bs_size]; exact hx)
  obtain ⟨v, ps, hrun, hv⟩ := World.ownsMap.lookup h keyS Tryz.underlying27 (z := .bool false) (Tryz.zeroValue4 w) (plainElem_bool Tryz.underlying4 false) hk
  rw [mB_at] at hv
  rw [hrun]
  unfold plainElem at hv
  rw [Tryz.underlying4] at hv
  cases v <;> simp at hv
  rename_i c
  rw [hv.1]
  simp
theorem OwnT.noMap {B n b : Nat} {w : World} {v : Value} {P : List (List UInt8)} {l : List Op} (h : OwnT B w v P) (hm : OwnB w b n l) : v.ownBlock ≠ some b := by
  intro e
  obtain ⟨_, c, hc⟩ := OwnR.blk h b e
  obtain ⟨es, clock, hb, _⟩ := hm
  rw [hc] at hb
  cases hb
theorem OwnT.byMap {B n b : Nat} {w w' : World} {v : Value} {P : List (List UInt8)} {l : List Op} (h : OwnT B w v P) (hm : OwnB w b n l) (g : w.grownBy w' (some b)) : OwnT B w' v P :=
  ⟨h.fl, World.ownsRow.kept (OwnR.row h) g (.inr (h.noMap hm))⟩
theorem OwnB.byRow {B n b : Nat} {w w' : World} {v : Value} {P : List (List UInt8)} {l : List Op} (hm : OwnB w b n l) (h : OwnT B w v P) (g : w.grownBy w' v.ownBlock) : OwnB w' b n l :=
  World.ownsMap.kept hm g (fun e => h.noMap hm e.symm)

/-- append to a row of texts: where the row lies then. -/
theorem wpList_append_rowB {w : World} {t : TypeId} {ops : Array Oper} {rest : List Oper} {o : Oper} {a : Act} {Q : Exit → Act → World → Prop} (hgd : o.guard = none) (s x : Operand)
    (ho : o.op = .call { callee := .builtin .append, args := #[s, x], argTypes := #[t, t] }) (hsl : Tryz.prog.underlying t = some (.slice 9))
    {B : Nat} {v : Value} {P : List (List UInt8)} (hs : a.eval s = v) (hown : OwnT B w v P) (p : List UInt8)
    (A : Addr) (hx : a.eval x = .slice (some A) 1 1) (hc : w.cell? A = some (.string (bs p))) (hlim : P.length ≤ 900000) (hB : B ≤ w.heap.size)
    (h : ∀ v' w', OwnT B w' v' (P ++ [p]) → w.grownBy w' v.ownBlock → (v'.ownBlock = v.ownBlock ∨ v'.ownBlock = some w.heap.size) → wpList Tryz.prog ops Q rest (a.put o.dst v') w') : wpList Tryz.prog ops Q (o :: rest) a w := by
  obtain ⟨i, hi0, hz0, hz1, hz2⟩ := info_parts strInfo
  obtain ⟨v', w', hrun, h2, h3, _, h5⟩ := run_append_own_at (P := Tryz.prog) w B t o.type 9 i _ 1 16 hsl hi0 hz0 hz1 hz2 rfl (by decide) v (strRow P).length (strRow P).flatten (OwnR.row hown) A 1 1 [.string (bs p)] rfl (by
    intro j u hu
    have hj : j = 0 := by have := (List.getElem?_eq_some_iff.1 hu).1; simp at this; exact this
    subst hj
    simp at hu
    subst hu
    rw [show A.add 0 = A by cases A; simp [Addr.add]]
    exact hc) (by intro u hu; simp at hu; subst hu; rfl) (by rw [strRow_len]; simp only [maxLen]; omega) (by rw [strRow_len]; omega) hB
  have e : strRow (P ++ [p]) = strRow P ++ [[.string (bs p)]] := by simp [strRow]
  refine wpList_plain hgd fun K hK => ?_
  unfold Oper.wp execOp
  simp only [ho, resolve, invoke, builtin, Sem.run_bind, Sem.run_pure, Result.andThen_ok, List.map_toArray, List.map_cons, List.map_nil, hs, hx, hrun]
  refine hK _ _ (h v' w' ⟨fun c hc => by obtain ⟨p, _, rfl⟩ := List.mem_map.1 hc; rfl, ?_⟩ h3 h5)
  rw [e, List.length_append, List.flatten_append]
  exact h2

/-! ### Sorting -/
theorem le_u8 : ∀ {x y : List UInt8}, x ≤ y → y ≤ x → x = y := fun h1 h2 => List.le_antisymm h1 h2
theorem sort_le (P : List (List UInt8)) : (sortT P).Pairwise (· ≤ ·) :=
  (List.pairwise_mergeSort (le := fun x y => decide (x ≤ y)) (fun a b c h1 h2 => by simp only [decide_eq_true_eq] at *; exact List.le_trans h1 h2) (fun a b => by simp only [Bool.or_eq_true, decide_eq_true_eq]; exact List.le_total a b) P).imp fun h => by simpa using h
theorem sort_perm {P Q : List (List UInt8)} (h : P.Perm Q) : sortT P = sortT Q :=
  List.Perm.eq_of_pairwise (le := (· ≤ ·)) (fun a b _ _ h1 h2 => le_u8 h1 h2) (sort_le P) (sort_le Q) ((List.mergeSort_perm P _).trans (h.trans (List.mergeSort_perm Q _).symm))
theorem opts_perm {l l' : List Op} (h : l'.Perm l) : (optsL l').Perm (optsL l) := h.flatMap_right _

/-! ### The head -/
theorem host_no (S : List UInt8) (h : hostOk S = true) (c : UInt8) (hc : hostB c.toNat = false) : c ∉ S := by
  intro hm
  unfold hostOk at h
  rw [Bool.and_eq_true] at h
  have := List.all_eq_true.1 h.1 c hm
  rw [hc] at this
  cases this
theorem host_len (S : List UInt8) (h : hostOk S = true) : S.length ≤ 100 := by
  unfold hostOk at h
  rw [Bool.and_eq_true] at h
  have := h.2
  simp at this
  omega
theorem hostL_host (S : List UInt8) (h : hostOk S = true) : hostL S = S := by
  unfold hostL
  rw [if_neg]
  have hn := host_no S h 58 (by decide)
  have e := firstIdx_nonneg (bs S) 58
  have e2 : (bs S).data.toList.any (· == 58) = false := by
    rw [← Bool.not_eq_true, List.any_eq_true]
    rintro ⟨x, hx, he⟩
    have hx : x ∈ S := by simpa [bs] using hx
    have he : x = 58 := by simpa using he
    exact hn (he ▸ hx)
  rw [e2, decide_eq_false_iff_not] at e
  exact e
theorem url_head (S : List UInt8) (h : hostOk S = true) (D a b c : List UInt8) : urlL S D a b c = headL S D a b c := by
  unfold urlL headL
  rw [hostL_host S h]
theorem itoa_no63 (n : Int) : ∀ c ∈ Lib.itoa n, c ≠ 63 := by
  have hd : ∀ u : Nat, ∀ c ∈ Lib.decDigits u, c ≠ 63 := by
    intro u
    induction u using Nat.strongRecOn with
    | ind u ih =>
      intro c hc
      rw [Lib.decDigits] at hc
      split at hc
      · rename_i h
        simp only [List.mem_singleton] at hc
        subst hc
        rcases (by omega : u = 0 ∨ u = 1 ∨ u = 2 ∨ u = 3 ∨ u = 4 ∨ u = 5 ∨ u = 6 ∨ u = 7 ∨ u = 8 ∨ u = 9) with rfl | rfl | rfl | rfl | rfl | rfl | rfl | rfl | rfl | rfl <;> decide
      · rename_i h
        rcases List.mem_append.1 hc with hc | hc
        · exact ih (u / 10) (by omega) c hc
        · simp only [List.mem_singleton] at hc
          subst hc
          generalize hr : u % 10 = r
          have : r < 10 := by omega
          rcases (by omega : r = 0 ∨ r = 1 ∨ r = 2 ∨ r = 3 ∨ r = 4 ∨ r = 5 ∨ r = 6 ∨ r = 7 ∨ r = 8 ∨ r = 9) with rfl | rfl | rfl | rfl | rfl | rfl | rfl | rfl | rfl | rfl <;> decide
  intro c hc
  unfold Lib.itoa at hc
  split at hc
  · rcases List.mem_cons.1 hc with rfl | hc
    · decide
    · exact hd _ c hc
  · exact hd _ c hc
theorem head_no63 (S : List UInt8) (h : hostOk S = true) (n : Int) : (63 : UInt8) ∉ headL S (Lib.itoa n) [115] [117] [112] := by
  have h1 := host_no S h 63 (by decide)
  have h2 : (63 : UInt8) ∉ Lib.itoa n := fun hm => itoa_no63 n 63 hm rfl
  have e1 : esc [115] = [115] := by decide
  have e2 : esc [117] = [117] := by decide
  have e3 : esc [112] = [112] := by decide
  unfold headL
  rw [e1, e2, e3]
  simp only [List.mem_append, List.mem_cons]
  intro hm
  simp [h1, h2] at hm
end Go.Proofs.YtpadpdmidiaeoaaGreatDoor
