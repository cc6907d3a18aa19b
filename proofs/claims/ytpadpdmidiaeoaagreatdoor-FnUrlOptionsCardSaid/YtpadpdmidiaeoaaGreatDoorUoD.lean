/- The parts of a text between signs, blanks taken off: plain; rows of texts of the call's own. -/
import Derived.Test.YtpadpdmidiaeoaaGreatDoorUoC
import Derived.Test.YtpadpdmidiaeoaaGreatDoorUrW
namespace Go.Proofs.YtpadpdmidiaeoaaGreatDoor
open Go Go.RowKit Go.Lib

theorem splitL_sep (c : UInt8) : ∀ A : List UInt8, splitL c (A ++ [c]) = splitL c A ++ [[]]
  | [] => by simp [splitL]
  | b :: A => by
    have ih := splitL_sep c A
    by_cases h : b = c
    · simp only [List.cons_append, splitL, if_pos h, ih]
    · simp only [List.cons_append, splitL, if_neg h, ih]
      cases e : splitL c A with
      | nil => exact absurd e (splitL_ne c A)
      | cons p ps => rfl
theorem splitL_snoc (c x : UInt8) (hx : x ≠ c) : ∀ A : List UInt8, splitL c (A ++ [x]) = (splitL c A).set ((splitL c A).length - 1) ((splitL c A).getLastD [] ++ [x])
  | [] => by simp [splitL, hx]
  | b :: A => by
    have ih := splitL_snoc c x hx A
    by_cases h : b = c
    · simp only [List.cons_append, splitL, if_pos h, ih]
      have hne := splitL_ne c A
      cases e : splitL c A with
      | nil => exact absurd e hne
      | cons p ps => simp
    · simp only [List.cons_append, splitL, if_neg h, ih]
      cases e : splitL c A with
      | nil => exact absurd e (splitL_ne c A)
      | cons p ps =>
        cases ps with
        | nil => simp
        | cons q qs => simp
theorem splitL_pos (c : UInt8) (A : List UInt8) : 0 < (splitL c A).length := List.length_pos_iff.2 (splitL_ne c A)

/-- Blanks taken off at the end; at both ends. -/
def trimR (p : List UInt8) : List UInt8 := (p.reverse.dropWhile (· == 32)).reverse
def trimB (p : List UInt8) : List UInt8 := trimR (p.dropWhile (· == 32))
theorem trimR_snoc (p : List UInt8) : trimR (p ++ [32]) = trimR p := by simp [trimR]
theorem trimR_stop (p : List UInt8) (x : UInt8) (h : x ≠ 32) : trimR (p ++ [x]) = p ++ [x] := by simp [trimR, h]
theorem trimR_nil : trimR [] = [] := rfl

/-- A row of texts of the call's own. -/
def OwnT (B : Nat) (w : World) (v : Value) (P : List (List UInt8)) : Prop := OwnR 9 1 B w v (strRow P)
theorem strRow_flat : ∀ P : List (List UInt8), (strRow P).flatten = P.map fun p => Value.string (bs p)
  | [] => rfl
  | p :: P => by
    have ih := strRow_flat P
    unfold strRow at ih ⊢
    simp only [List.map_cons, List.flatten_cons, ih, List.singleton_append]
theorem strRow_len (P : List (List UInt8)) : (strRow P).length = P.length := by simp [strRow]
theorem OwnT.gr {B : Nat} {a w : World} {v : Value} {P : List (List UInt8)} (h : OwnT B a v P) (g : Gr a w) : OwnT B w v P := OwnR.gr h g
theorem OwnT.row {B : Nat} {w : World} {v : Value} {P : List (List UInt8)} (h : OwnT B w v P) (hn : 0 < P.length) : ∃ b cap, v = .slice (some ⟨b, 0, none⟩) P.length cap ∧ P.length ≤ cap ∧ cap ≤ maxLen ∧ B ≤ b ∧ b < w.heap.size := by
  obtain ⟨b, cap, hv, h1, h2, h3, h4, _⟩ := OwnR.at' h (by rw [strRow_len]; exact hn)
  rw [strRow_len] at hv h1
  exact ⟨b, cap, hv, h1, h2, h3, h4⟩
theorem OwnT.cell {B b n cap : Nat} {w : World} {P : List (List UInt8)} (h : OwnT B w (.slice (some ⟨b, 0, none⟩) n cap) P) (i : Nat) (hi : i < P.length) : w.cell? ⟨b, i, none⟩ = some (.string (bs P[i])) := by
  obtain ⟨b', cap', hv, _, _, _, _, hat⟩ := OwnR.at' h (by rw [strRow_len]; omega)
  injection hv with e1 e2 e3
  injection e1 with e1
  injection e1 with e1
  subst e1
  have := hat i 0 [.string (bs P[i])] (.string (bs P[i])) (by simp [strRow, hi]) rfl
  rwa [Nat.mul_one, Nat.add_zero] at this
theorem OwnT.free {B b n cap : Nat} {w : World} {P : List (List UInt8)} (h : OwnT B w (.slice (some ⟨b, 0, none⟩) n cap) P) (k : Nat) : w.frozen? ⟨b, k, none⟩ = false := by
  obtain ⟨_, c, hc⟩ := OwnR.blk h b rfl
  exact blk_free hc k
theorem OwnT.lt {B b n cap : Nat} {w : World} {P : List (List UInt8)} (h : OwnT B w (.slice (some ⟨b, 0, none⟩) n cap) P) : B ≤ b ∧ b < w.heap.size := by
  obtain ⟨h1, c, hc⟩ := OwnR.blk h b rfl
  exact ⟨h1, lt_of_some hc⟩
theorem OwnT.set {B b n cap : Nat} {w : World} {P : List (List UInt8)} (h : OwnT B w (.slice (some ⟨b, 0, none⟩) n cap) P) (i : Nat) (hi : i < P.length) (x : List UInt8) : OwnT B (w.setCell ⟨b, i, none⟩ (.string (bs x))) (.slice (some ⟨b, 0, none⟩) n cap) (P.set i x) := by
  obtain ⟨hfl, h1, h2⟩ := h
  rw [strRow_len, strRow_flat] at h2
  rw [strRow_len, strRow_flat] at h1
  refine ⟨fun c hc => ?_, ?_, ?_⟩
  · obtain ⟨p, _, rfl⟩ := List.mem_map.1 hc; rfl
  · rw [strRow_len, strRow_flat]; simp
  · rcases h2 with ⟨hv, _⟩ | ⟨b', cap', cur, hv, hg, hh, k1, k2, k3, k4⟩
    · cases hv
    · injection hv with e1 e2 e3
      injection e1 with e1
      injection e1 with e1
      subst e1 e2 e3
      right
      refine ⟨b, cap, cur.setIfInBounds i (.string (bs x)), by rw [strRow_len, List.length_set], hg, ?_, by rw [strRow_len, List.length_set]; exact k1, k2, by simpa using k3, ?_⟩
      · simp [World.setCell, Array.getElem?_modify, hh]
      · rw [strRow_len, List.length_set, strRow_flat, List.map_set, ← k4, Array.toList_setIfInBounds, List.take_set]
end Go.Proofs.YtpadpdmidiaeoaaGreatDoor
