/- Parts of a value, trimmed; the texts of several options (plain). -/
import Derived.Test.YtpadpdmidiaeoaaGreatDoorUoG
import Derived.Test.YtpadpdmidiaeoaaGreatDoorUrX
import Derived.Test.YtpadpdmidiaeoaaGreatDoorUrR
import Derived.Lib.Case
namespace Go.Proofs.YtpadpdmidiaeoaaGreatDoor
open Go Go.RowKit Go.Lib

theorem drop_sp (M : List UInt8) : ∃ a, M = spL a ++ M.dropWhile (· == 32) := by
  induction M with
  | nil => exact ⟨0, rfl⟩
  | cons x M ih =>
    by_cases e : x = 32
    · subst e
      obtain ⟨a, ha⟩ := ih
      refine ⟨a + 1, ?_⟩
      simp only [List.dropWhile_cons, beq_self_eq_true, if_true, spL, List.replicate_succ, List.cons_append]
      rw [← spL, ← ha]
    · exact ⟨0, by simp [List.dropWhile_cons, e, spL]⟩
theorem sp_rev (b : Nat) : (spL b).reverse = spL b := by simp [spL]
theorem trim_form (M : List UInt8) : ∃ a b, M = spL a ++ trimB M ++ spL b := by
  obtain ⟨a, ha⟩ := drop_sp M
  obtain ⟨b, hb⟩ := drop_sp (M.dropWhile (· == 32)).reverse
  refine ⟨a, b, ?_⟩
  have h2 := congrArg List.reverse hb
  rw [List.reverse_reverse, List.reverse_append, sp_rev] at h2
  rw [List.append_assoc]
  show M = spL a ++ (trimR (M.dropWhile (· == 32)) ++ spL b)
  rw [show trimR (M.dropWhile (· == 32)) ++ spL b = M.dropWhile (· == 32) from h2.symm]
  exact ha
theorem head_no (M : List UInt8) : ∀ x, (M.dropWhile (· == 32))[0]? = some x → x ≠ 32 := by
  induction M with
  | nil => simp
  | cons y M ih =>
    intro x
    by_cases e : y = 32
    · subst e; simpa using ih x
    · simp only [List.dropWhile_cons, beq_iff_eq, e, if_false]
      intro h
      simp at h
      exact h ▸ e
theorem trimR_last (p : List UInt8) : ∀ x, (trimR p)[(trimR p).length - 1]? = some x → x ≠ 32 := by
  intro x h
  refine head_no p.reverse x ?_
  unfold trimR at h
  rw [List.length_reverse] at h
  cases e : p.reverse.dropWhile (· == 32) with
  | nil => rw [e] at h; simp at h
  | cons y t =>
    rw [e] at h
    simpa using h
theorem trimR_head (p : List UInt8) (h : trimR p ≠ []) : (trimR p)[0]? = p[0]? := by
  obtain ⟨b, hb⟩ := drop_sp p.reverse
  have h2 := congrArg List.reverse hb
  rw [List.reverse_reverse, List.reverse_append, sp_rev] at h2
  conv => rhs; rw [h2]
  show _ = (trimR p ++ spL b)[0]?
  rw [List.getElem?_append_left (List.length_pos_iff.2 h)]
theorem trimB_ends (M : List UInt8) (h : trimB M ≠ []) : (∀ x, (trimB M)[0]? = some x → x ≠ 32) ∧ (∀ x, (trimB M)[(trimB M).length - 1]? = some x → x ≠ 32) := by
  refine ⟨fun x hx => ?_, trimR_last _⟩
  unfold trimB at hx h
  rw [trimR_head _ h] at hx
  exact head_no M x hx
theorem trimB_mem (M : List UInt8) (x : UInt8) (h : x ∈ trimB M) : x ∈ M := by
  obtain ⟨a, b, e⟩ := trim_form M
  rw [e]
  simp [h]
/-- A printable sign. -/
def prB (b : UInt8) : Bool := decide (32 ≤ b.toNat ∧ b.toNat < 127)
theorem trimAny (M : List UInt8) (h : trimB M ≠ []) (hp : ∀ b ∈ M, prB b = true) (hl : M.length ≤ 1000) (w : World) (ht : TabS w) :
    Calls Tryz.prog 42 #[.string (bs M)] w fun e w' => e = .returned (.string (bs (trimB M))) ∧ Gr w w' := by
  obtain ⟨a, b, e⟩ := trim_form M
  have h0 : 0 < (trimB M).length := List.length_pos_iff.2 h
  have hx : (trimB M)[0]? = some (trimB M)[0] := List.getElem?_eq_getElem _
  have hy : (trimB M)[(trimB M).length - 1]? = some (trimB M)[(trimB M).length - 1] := List.getElem?_eq_getElem _
  obtain ⟨e1, e2⟩ := trimB_ends M h
  have n1 := e1 _ hx
  have n2 := e2 _ hy
  have p1 := hp _ (trimB_mem M _ (List.getElem_mem (show 0 < (trimB M).length from h0)))
  have p2 := hp _ (trimB_mem M _ (List.getElem_mem (show (trimB M).length - 1 < (trimB M).length by omega)))
  simp only [prB, decide_eq_true_eq] at p1 p2
  have q1 : (trimB M)[0].toNat ≠ 32 := fun h => n1 (UInt8.toNat_inj.1 h)
  have q2 : (trimB M)[(trimB M).length - 1].toNat ≠ 32 := fun h => n2 (UInt8.toNat_inj.1 h)
  have := trimAt a b (trimB M) _ _ hx hy (by omega) (by omega) (by have := congrArg List.length e; simp [spL] at this; omega) w ht
  rw [← e] at this
  exact this

theorem splitL_sp (L : List UInt8) : (splitL 44 (32 :: L)).map trimB = (splitL 44 L).map trimB := by
  have h := splitL_ne 44 L
  rw [splitL, if_neg (by decide)]
  cases e : splitL 44 L with
  | nil => exact absurd e h
  | cons p P => simp [trimB]
theorem splitL_sps (a : Nat) (L : List UInt8) : (splitL 44 (spL a ++ L)).map trimB = (splitL 44 L).map trimB := by
  induction a with
  | zero => rfl
  | succ a ih =>
    show (splitL 44 (32 :: (spL a ++ L))).map trimB = _
    rw [splitL_sp, ih]
theorem trimB_snoc (p : List UInt8) : trimB (p ++ [32]) = trimB p := by
  unfold trimB
  rw [List.dropWhile_append]
  split
  · rename_i h
    simp only [List.isEmpty_iff] at h
    rw [h]
    rfl
  · exact trimR_snoc _
theorem map_set_last {P : List (List UInt8)} (h : 0 < P.length) (x : List UInt8) (f : List UInt8 → List UInt8) (hx : f x = f (P.getLastD [])) : (P.set (P.length - 1) x).map f = P.map f := by
  apply List.ext_getElem?
  intro i
  rw [List.getElem?_map, List.getElem?_map, List.getElem?_set]
  split
  · rename_i e
    subst e
    rw [if_pos (by omega), last_at P [] (P.length - 1) (by omega)]
    simp [hx]
  · rfl
theorem splitL_ends (L : List UInt8) (b : Nat) : (splitL 44 (L ++ spL b)).map trimB = (splitL 44 L).map trimB := by
  induction b with
  | zero => simp [spL]
  | succ b ih =>
    have e : L ++ spL (b + 1) = (L ++ spL b) ++ [32] := by simp [spL, List.replicate_succ']
    rw [e, splitL_snoc 44 32 (by decide), map_set_last (splitL_pos _ _) _ _ (trimB_snoc _), ih]
/-- Trimming ahead of the splitting changes no part. -/
theorem parts_trim (V : List UInt8) : (splitL 44 (trimB V)).map trimB = partsL V := by
  obtain ⟨a, b, e⟩ := trim_form V
  unfold partsL
  conv => rhs; rw [e, List.append_assoc, splitL_sps, splitL_ends]

/-- A value that a law lets be: printable, and each part has a sign that is no blank. -/
def valOk (V : List UInt8) : Prop := (∀ b ∈ V, prB b = true) ∧ ([] : List UInt8) ∉ partsL V
theorem splitL_mem (c : UInt8) : ∀ (L : List UInt8), ∀ p ∈ splitL c L, ∀ x ∈ p, x ∈ L := by
  intro L
  induction L with
  | nil => simp [splitL]
  | cons b L ih =>
    intro p hp x hx
    rw [splitL] at hp
    split at hp
    · rcases List.mem_cons.1 hp with rfl | hp
      · cases hx
      · exact List.mem_cons_of_mem _ (ih p hp x hx)
    · split at hp
      · simp at hp; subst hp; exact List.mem_cons.2 (.inl (by simpa using hx))
      · rename_i q Q e
        rcases List.mem_cons.1 hp with rfl | hp
        · rcases List.mem_cons.1 hx with rfl | hx
          · exact List.mem_cons_self
          · exact List.mem_cons_of_mem _ (ih q (by rw [e]; simp) x hx)
        · exact List.mem_cons_of_mem _ (ih p (by rw [e]; simp [hp]) x hx)
theorem valOk.val {V : List UInt8} (h : valOk V) : trimB V ≠ [] := by
  intro e
  refine h.2 ?_
  rw [← parts_trim, e]
  simp [splitL, trimB, trimR]
theorem valOk.part {V p : List UInt8} (h : valOk V) (hp : p ∈ splitL 44 (trimB V)) : trimB p ≠ [] ∧ ∀ b ∈ p, prB b = true := by
  refine ⟨fun e => h.2 ?_, fun b hb => h.1 b (trimB_mem V b (splitL_mem 44 _ p hp b hb))⟩
  rw [← parts_trim, ← e]
  exact List.mem_map.2 ⟨p, hp, rfl⟩

/-- The texts of options, each with its sign behind it. -/
def ampL (T : List (List UInt8)) : List UInt8 := T.flatMap fun t => t ++ [38]
theorem ampL_snoc (T : List (List UInt8)) (t : List UInt8) : ampL (T ++ [t]) = ampL T ++ (t ++ [38]) := by simp [ampL]
theorem ampL_append (T U : List (List UInt8)) : ampL (T ++ U) = ampL T ++ ampL U := by simp [ampL]
def optsL (l : List Op) : List (List UInt8) := l.flatMap fun x => optL x.n x.v
/-- The texts with the sign between them. -/
def midL : List (List UInt8) → List UInt8
  | [] => []
  | [t] => t
  | t :: T => t ++ 38 :: midL T
theorem midL_cons (t u : List UInt8) (T : List (List UInt8)) : midL (t :: u :: T) = t ++ 38 :: midL (u :: T) := rfl
theorem ampL_mid : ∀ (T : List (List UInt8)), T ≠ [] → ampL T = midL T ++ [38]
  | [], h => absurd rfl h
  | [t], _ => by simp [ampL, midL]
  | t :: u :: T, _ => by
    have := ampL_mid (u :: T) (by simp)
    rw [show ampL (t :: u :: T) = (t ++ [38]) ++ ampL (u :: T) by simp [ampL], this, midL_cons]
    simp
theorem midL_last : ∀ (T : List (List UInt8)), T ≠ [] → (∀ t ∈ T, t ≠ [] ∧ (38 : UInt8) ∉ t) → ∃ A b, midL T = A ++ [b] ∧ b ≠ 38
  | [], h, _ => absurd rfl h
  | [t], _, h => by
    obtain ⟨h1, h2⟩ := h t (by simp)
    refine ⟨t.dropLast, t.getLast h1, (List.dropLast_concat_getLast h1).symm, fun e => h2 (e ▸ List.getLast_mem h1)⟩
  | t :: u :: T, _, h => by
    obtain ⟨A, b, e, hb⟩ := midL_last (u :: T) (by simp) (fun t ht => h t (List.mem_cons_of_mem _ ht))
    refine ⟨t ++ 38 :: A, b, ?_, hb⟩
    rw [midL_cons, e]
    simp
theorem splitL_mid : ∀ (T : List (List UInt8)), T ≠ [] → (∀ t ∈ T, (38 : UInt8) ∉ t) → splitL 38 (midL T) = T
  | [], h, _ => absurd rfl h
  | [t], _, h => splitL_no 38 t (h t (by simp))
  | t :: u :: T, _, h => by
    rw [midL_cons, splitL_at 38 _ t (h t (by simp)), splitL_mid (u :: T) (by simp) (fun t ht => h t (List.mem_cons_of_mem _ ht))]
/-- The name in great letters is SERVER just if in small ones it is server (of letters and digits). -/
theorem upper_server (nm : List UInt8) : (toUpperA nm = [83, 69, 82, 86, 69, 82]) ↔ nm.map lowB = srvL := by
  have one : ∀ (b : UInt8), (upperB b = 83 ↔ lowB b = 115) ∧ (upperB b = 69 ↔ lowB b = 101) ∧ (upperB b = 82 ↔ lowB b = 114) ∧ (upperB b = 86 ↔ lowB b = 118) := by
    have : ∀ n : Fin 256, (upperB (UInt8.ofNat n.val) = 83 ↔ lowB (UInt8.ofNat n.val) = 115) ∧ (upperB (UInt8.ofNat n.val) = 69 ↔ lowB (UInt8.ofNat n.val) = 101) ∧ (upperB (UInt8.ofNat n.val) = 82 ↔ lowB (UInt8.ofNat n.val) = 114) ∧ (upperB (UInt8.ofNat n.val) = 86 ↔ lowB (UInt8.ofNat n.val) = 118) := by decide +kernel
    intro b
    have := this ⟨b.toNat, b.toNat_lt⟩
    simpa using this
  unfold toUpperA srvL
  match nm with
  | [] | [_] | [_, _] | [_, _, _] | [_, _, _, _] | [_, _, _, _, _] => simp
  | [a, b, c, d, e, f] => simp [(one a).1, (one b).2.1, (one c).2.2.1, (one d).2.2.2, (one e).2.1, (one f).2.2.1]
  | a :: b :: c :: d :: e :: f :: g :: r => simp
end Go.Proofs.YtpadpdmidiaeoaaGreatDoor
