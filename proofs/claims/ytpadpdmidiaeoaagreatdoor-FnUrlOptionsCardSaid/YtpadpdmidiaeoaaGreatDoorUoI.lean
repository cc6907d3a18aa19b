/- goora.BuildUrl with options. -/
import Derived.Test.YtpadpdmidiaeoaaGreatDoorUoH
import Derived.Test.YtpadpdmidiaeoaaGreatDoorUrD
namespace Go.Proofs.YtpadpdmidiaeoaaGreatDoor
open Go Go.RowKit Go.Lib Go.Maps

theorem ampL_len (T : List (List UInt8)) (m : Nat) (h : ∀ t ∈ T, t.length ≤ m) : (ampL T).length ≤ T.length * (m + 1) := by
  induction T with
  | nil => simp [ampL]
  | cons t T ih =>
    have h1 := h t (by simp)
    have h2 := ih (fun t ht => h t (by simp [ht]))
    rw [show ampL (t :: T) = (t ++ [38]) ++ ampL T by simp [ampL], List.length_append, List.length_append]
    show t.length + 1 + _ ≤ (T.length + 1) * (m + 1)
    rw [Nat.add_mul]
    omega
theorem optP_len (nm p : List UInt8) : (optP nm p).length ≤ nm.length + 1 + 3 * p.length := by
  have h1 := escQ_len p
  have h2 := hxQ_le p
  unfold optP
  split <;> simp <;> omega
theorem opt_len (nm : List UInt8) (P : List (List UInt8)) (hn : nm.length ≤ 100) (hP : P.length ≤ 301) (hp : ∀ p ∈ P, p.length ≤ 300) : (ampL (P.map fun p => optP nm (trimB p))).length ≤ 310000 := by
  have h := ampL_len (P.map fun p => optP nm (trimB p)) 1001 (fun t ht => by
    obtain ⟨p, hm, rfl⟩ := List.mem_map.1 ht
    have h1 := optP_len nm (trimB p)
    have h2 := trimB_len p
    have h3 := hp p hm
    omega)
  rw [List.length_map] at h
  omega
/-- An option that the law lets be. -/
structure OkO (x : Op) : Prop where
  n : x.n.length ≤ 100
  v : x.v.length ≤ 300
  ok : valOk x.v
  asc : ∀ c ∈ x.n, c.toNat < 128
def partsO (x : Op) : List (List UInt8) := splitL 44 (trimB x.v)
theorem OkO.len {x : Op} (h : OkO x) : (partsO x).length ≤ 301 ∧ ∀ p ∈ partsO x, p.length ≤ 300 := by
  have h1 := trimB_len x.v
  have h2 := h.v
  have h3 := splitL_len 44 (trimB x.v)
  exact ⟨by unfold partsO; omega, fun p hp => by have := splitL_part 44 _ p hp; omega⟩
theorem optL_parts (x : Op) : optL x.n x.v = (partsO x).map fun p => optP x.n (trimB p) := by
  unfold optL partsO
  rw [← parts_trim, List.map_map]
  rfl
theorem OkO.amp {x : Op} (h : OkO x) (k : Nat) : (ampL (((partsO x).take k).map fun p => optP x.n (trimB p))).length ≤ 310000 :=
  opt_len _ _ h.n (by have := h.len.1; rw [List.length_take]; omega) (fun p hp => h.len.2 p (List.mem_of_mem_take hp))
theorem optsL_snoc (l : List Op) (x : Op) : optsL (l ++ [x]) = optsL l ++ optL x.n x.v := by simp [optsL]
theorem opts_len (l : List Op) (h : ∀ x ∈ l, OkO x) : (ampL (optsL l)).length ≤ l.length * 310000 := by
  induction l with
  | nil => simp [optsL, ampL]
  | cons x l ih =>
    have h1 := ih (fun y hy => h y (by simp [hy]))
    have h2 := (h x (by simp)).amp (partsO x).length
    rw [List.take_length, ← optL_parts] at h2
    rw [show optsL (x :: l) = optL x.n x.v ++ optsL l by simp [optsL], ampL_append, List.length_append, List.length_cons]
    omega

theorem ranges_gr {H : Type} {P : Program} {k : TypeId} {R : Value → Option (DataW H × List MemPlace)} {a w : World} {b r n : Nat} {D : DataW H} {left : Lit → Bool} {cnt : Nat}
    (h : a.ranges P k R b r n D left cnt) (g : Gr a w) : w.ranges P k R b r n D left cnt := by
  obtain ⟨es, clock, since, seen, c0, hb, F, hs, hD, hr, rest⟩ := h
  exact ⟨es, clock, since, seen, c0, g.heap hb, F, hs, hD, g.heap hr, rest⟩

/-- Which options are still to come. -/
structure Come (l done : List Op) (left : Lit → Bool) : Prop where
  on : ∀ x ∈ l, (left (keyD x) = true ↔ x ∉ done)
  of : ∀ kl, left kl = true → ∃ x ∈ l, kl = keyD x
  sub : ∀ x ∈ done, x ∈ l
  nd : done.Nodup
theorem key_inj {l : List Op} (hd : (l.map Op.n).Nodup) {x y : Op} (hx : x ∈ l) (hy : y ∈ l) (h : keyD x = keyD y) : x = y := by
  injection h with h
  induction l with
  | nil => cases hx
  | cons z l ih =>
    rw [List.map_cons, List.nodup_cons] at hd
    rcases List.mem_cons.1 hx with hx1 | hx1
    · rcases List.mem_cons.1 hy with hy1 | hy1
      · rw [hx1, hy1]
      · exact absurd (List.mem_map.2 ⟨y, hy1, by rw [← h, hx1]⟩) hd.1
    · rcases List.mem_cons.1 hy with hy1 | hy1
      · exact absurd (List.mem_map.2 ⟨x, hx1, by rw [h, hy1]⟩) hd.1
      · exact ih hd.2 hx1 hy1
theorem Come.start (l : List Op) : Come l [] (Maps.has (dOf l)) :=
  ⟨fun x hx => by rw [dOf_has]; exact ⟨fun _ => by simp, fun _ => ⟨x, hx, rfl⟩⟩, fun kl h => (dOf_has l kl).1 h, (fun x hx => absurd hx (by simp)), List.nodup_nil⟩
theorem Come.step {l done : List Op} {left : Lit → Bool} (h : Come l done left) (hd : (l.map Op.n).Nodup) {o : Op} (ho : o ∈ l) (hl : left (keyD o) = true) : Come l (done ++ [o]) (fun z => left z && !z.sameKey (keyD o)) := by
  have hno := (h.on o ho).1 hl
  refine ⟨fun x hx => ?_, fun kl hk => h.of kl (by simp at hk; exact hk.1), fun x hx => ?_, ?_⟩
  · have e : (keyD x).sameKey (keyD o) = decide (x = o) := by
      by_cases e : x = o
      · subst e; simp [WideAt.sameKey_self (show WideAt.IsKeyLit (keyD x) from trivial)]
      · simp only [e, decide_false]
        cases hs : (keyD x).sameKey (keyD o)
        · rfl
        · exact absurd (key_inj hd hx ho (WideAt.sameKey_eq hs)) e
    rw [e]
    have := h.on x hx
    by_cases e2 : x = o <;> simp [e2, this]
  · rcases List.mem_append.1 hx with hx | hx
    · exact h.sub x hx
    · simp at hx; subst hx; exact ho
  · rw [List.nodup_append]
    exact ⟨h.nd, by simp, fun x hx y hy => by simp at hy; subst hy; exact fun e => hno (e ▸ hx)⟩
theorem Come.stop {l done : List Op} {left : Lit → Bool} (h : Come l done left) (hd : (l.map Op.n).Nodup) (hl : ∀ kl, left kl = false) : done.Perm l := by
  have hn : l.Nodup := (List.Pairwise.of_map Op.n (fun x y h e => h (by rw [e])) hd)
  refine (List.perm_ext_iff_of_nodup h.nd hn).2 fun x => ⟨h.sub x, fun hx => ?_⟩
  by_cases e : x ∈ done
  · exact e
  · exact absurd ((h.on x hx).2 e) (by simp [hl])
theorem nodup_len {α : Type} [DecidableEq α] : ∀ (a : List α), a.Nodup → ∀ (b : List α), (∀ x ∈ a, x ∈ b) → a.length ≤ b.length
  | [], _, b, _ => Nat.zero_le _
  | x :: a, hn, b, h => by
    rw [List.nodup_cons] at hn
    have hx := h x (by simp)
    have ih := nodup_len a hn.2 (b.erase x) (fun y hy => (List.mem_erase_of_ne (fun e : y = x => hn.1 (by rw [← e]; exact hy))).2 (h y (by simp [hy])))
    rw [List.length_erase_of_mem hx] at ih
    have := List.length_pos_of_mem hx
    rw [List.length_cons]
    omega
theorem come_len {l done : List Op} {left : Lit → Bool} (h : Come l done left) : done.length ≤ l.length := nodup_len _ h.nd l h.sub

theorem upS (o : Op) (h : OkO o) (W : World) : Calls Tryz.prog 44 #[.string (bs o.n)] W fun e w' => e = .returned (.string (bs (toUpperA o.n))) ∧ Gr W w' := by
  have hsz : (bs o.n).size ≤ 140737488355328 := by rw [bs_size]; have := h.n; omega
  refine (Tryz.strings_ToUpper_ascii (bs o.n) W hsz (fun j b hb => h.asc b (by have := List.mem_of_getElem? hb; simpa [bs] using this))).mono fun e w' => ?_
  rintro ⟨rfl, hg⟩
  exact ⟨by simp [bs], hg⟩
end Go.Proofs.YtpadpdmidiaeoaaGreatDoor
