/- Rows of structs with two rows of bytes each: cut, and put together again. -/
import Derived.Test.YtgkccbfepjgjoaaDoorSeCo
import Derived.Test.YtgkccbfepjgjoaaDoorSeEq
namespace Go.Proofs.YtgkccbfepjgjoaaDoor
open Go Go.RowKit

/-- A kind of struct. -/
structure Ty (α : Type) where
  sz : Nat
  cs : α → Value × Value → List Value
  d : α → List Int
  o : α → List Int
  len : ∀ x p, (cs x p).length = sz
def RdA {α : Type} (Y : Ty α) (w : World) (b o : Nat) (l : List α) (ps : List (Value × Value)) : Prop :=
  ps.length = l.length ∧ (∀ (i : Nat) (x : α) (q : Value × Value), l[i]? = some x → ps[i]? = some q → Rd w q.1 (Y.d x) ∧ Rd w q.2 (Y.o x)) ∧ ∀ (i : Nat) (x : α) (q : Value × Value) (j : Nat) (u : Value), l[i]? = some x → ps[i]? = some q → (Y.cs x q)[j]? = some u → w.cell? ⟨b, o + i * Y.sz + j, none⟩ = some u

theorem rows_flat {w : World} {b sz : Nat} : ∀ (cs : List (List Value)) (o : Nat), (∀ c ∈ cs, c.length = sz) → (∀ i c j u, cs[i]? = some c → c[j]? = some u → w.cell? ⟨b, o + i * sz + j, none⟩ = some u) → ∀ m u, cs.flatten[m]? = some u → w.cell? ⟨b, o + m, none⟩ = some u
  | [], o, _, _, m, u, h => by simp at h
  | a :: cs, o, hl, hc, m, u, h => by
    have ha := hl a (List.mem_cons_self ..)
    rw [List.flatten_cons] at h
    by_cases hm : m < a.length
    · rw [List.getElem?_append_left hm] at h
      have := hc 0 a m u rfl h
      rwa [Nat.zero_mul, Nat.add_zero] at this
    · rw [List.getElem?_append_right (by omega), ha] at h
      have := rows_flat cs (o + sz) (fun c hc => hl c (List.mem_cons_of_mem _ hc)) (fun i c j u h1 h2 => by
        have := hc (i + 1) c j u (by simpa using h1) h2
        rwa [Nat.add_mul, Nat.one_mul, ← Nat.add_assoc, Nat.add_right_comm o (i * sz) sz] at this) (m - sz) u h
      rwa [show o + sz + (m - sz) = o + m by omega] at this
theorem mem_zip {α β γ : Type} {f : α → β → γ} {l : List α} {ps : List β} {c : γ} (h : c ∈ List.zipWith f l ps) : ∃ (i : Nat) (x : α) (q : β), l[i]? = some x ∧ ps[i]? = some q ∧ c = f x q := by
  obtain ⟨i, hi, rfl⟩ := List.mem_iff_getElem.1 h
  rw [List.length_zipWith] at hi
  have h1 : i < l.length := by omega
  have h2 : i < ps.length := by omega
  exact ⟨i, l[i], ps[i], List.getElem?_eq_getElem h1, List.getElem?_eq_getElem h2, by rw [List.getElem_zipWith]⟩

section
variable {α : Type} {Y : Ty α} {w : World} {b o : Nat} {l : List α} {ps : List (Value × Value)}
theorem RdA.gr {a : World} (h : RdA Y a b o l ps) (g : Gr a w) : RdA Y w b o l ps :=
  ⟨h.1, fun i x q h1 h2 => ⟨(h.2.1 i x q h1 h2).1.gr g, (h.2.1 i x q h1 h2).2.gr g⟩, fun i x q j u h1 h2 h3 => g.cell (h.2.2 i x q j u h1 h2 h3)⟩
theorem RdA.drop (h : RdA Y w b o l ps) (k : Nat) : RdA Y w b (o + k * Y.sz) (l.drop k) (ps.drop k) := by
  refine ⟨by simp [h.1], fun i x q h1 h2 => ?_, fun i x q j u h1 h2 h3 => ?_⟩
  · rw [List.getElem?_drop] at h1 h2
    exact h.2.1 _ x q h1 h2
  · rw [List.getElem?_drop] at h1 h2
    have := h.2.2 _ x q j u h1 h2 h3
    rwa [Nat.add_mul, ← Nat.add_assoc] at this
theorem RdA.take (h : RdA Y w b o l ps) (k : Nat) : RdA Y w b o (l.take k) (ps.take k) := by
  refine ⟨by simp [h.1], fun i x q h1 h2 => ?_, fun i x q j u h1 h2 h3 => ?_⟩
  · by_cases hi : i < k
    · rw [List.getElem?_take_of_lt hi] at h1 h2
      exact h.2.1 _ x q h1 h2
    · rw [List.getElem?_take, if_neg hi] at h1; cases h1
  · by_cases hi : i < k
    · rw [List.getElem?_take_of_lt hi] at h1 h2
      exact h.2.2 _ x q j u h1 h2 h3
    · rw [List.getElem?_take, if_neg hi] at h1; cases h1
theorem RdA.src (h : RdA Y w b o l ps) {n : Nat} (hn : l.length = n) (c : Nat) : SrcR w (.slice (some ⟨b, o, none⟩) n c) (List.zipWith Y.cs l ps) := by
  have hz := zip_len Y.cs l ps h.1
  refine .inr ⟨⟨b, o, none⟩, c, by rw [hz, hn], fun j x hj => ?_⟩
  rw [Lib.addr_add]
  refine rows_flat (sz := Y.sz) _ o (fun c hc => ?_) (fun i c j u h1 h2 => ?_) j x hj
  · obtain ⟨i, x, q, _, _, rfl⟩ := mem_zip hc
    exact Y.len x q
  · obtain ⟨hi', e⟩ := List.getElem?_eq_some_iff.1 h1
    rw [List.length_zipWith] at hi'
    have h3 : i < l.length := by omega
    have h4 : i < ps.length := by omega
    rw [List.getElem_zipWith] at e
    rw [← e] at h2
    exact h.2.2 i _ _ j u (List.getElem?_eq_getElem h3) (List.getElem?_eq_getElem h4) h2
theorem RdA.cells (h : RdA Y w b o l ps) (h1 : ∀ x p, (∃ q n c, p.1 = Value.slice q n c) → (∃ q n c, p.2 = Value.slice q n c) → ∀ u ∈ Y.cs x p, u.oneCell' = true) : ∀ c ∈ List.zipWith Y.cs l ps, c.length = Y.sz ∧ ∀ u ∈ c, u.oneCell' = true := by
  intro c hc
  obtain ⟨i, x, q, hx, hq, rfl⟩ := mem_zip hc
  obtain ⟨⟨_, _, e1, _⟩, ⟨_, _, e2, _⟩⟩ := h.2.1 i x q hx hq
  exact ⟨Y.len x q, h1 x q ⟨_, _, _, e1⟩ ⟨_, _, _, e2⟩⟩
/-- Out of a row of the call's own. -/
theorem RdA.of_own {T : TypeId} {B : Nat} {v : Value} (h : OwnR T Y.sz B w v (List.zipWith Y.cs l ps)) (hl : ps.length = l.length) (hr : ∀ (i : Nat) (x : α) (q : Value × Value), l[i]? = some x → ps[i]? = some q → Rd w q.1 (Y.d x) ∧ Rd w q.2 (Y.o x)) (hn : 0 < l.length) :
    ∃ b c, v = .slice (some ⟨b, 0, none⟩) l.length c ∧ l.length ≤ c ∧ c ≤ maxLen ∧ RdA Y w b 0 l ps := by
  have hz := zip_len Y.cs l ps hl
  obtain ⟨b, cap, rfl, h1, h2, _, _, hat⟩ := h.at' (by rw [hz]; exact hn)
  rw [hz] at h1 ⊢
  refine ⟨b, cap, rfl, h1, h2, hl, hr, fun i x q j u hx hq hj => ?_⟩
  rw [Nat.zero_add]
  exact hat i j _ u (zip_at hx hq) hj
end

/-- Cut, and put together in the other order. -/
theorem RdA.turn {α : Type} {Y : Ty α} {w w' : World} {b o : Nat} {l : List α} {ps : List (Value × Value)} (h : RdA Y w b o l ps) (g : Gr w w') (k : Nat) :
    [List.zipWith Y.cs (l.drop k) (ps.drop k), List.zipWith Y.cs (l.take k) (ps.take k)].flatten = List.zipWith Y.cs (l.drop k ++ l.take k) (ps.drop k ++ ps.take k) ∧ (ps.drop k ++ ps.take k).length = (l.drop k ++ l.take k).length ∧
      ∀ (i : Nat) (x : α) (q : Value × Value), (l.drop k ++ l.take k)[i]? = some x → (ps.drop k ++ ps.take k)[i]? = some q → Rd w' q.1 (Y.d x) ∧ Rd w' q.2 (Y.o x) := by
  have e : (ps.drop k).length = (l.drop k).length := by simp [h.1]
  refine ⟨?_, ?_, fun i x q hx hq => ?_⟩
  · rw [List.zipWith_append e.symm]
    simp
  · rw [List.length_append, List.length_append, List.length_drop, List.length_take, List.length_drop, List.length_take, h.1]
  · by_cases hi : i < (l.drop k).length
    · rw [List.getElem?_append_left hi] at hx
      rw [List.getElem?_append_left (by omega)] at hq
      have := (h.gr g).drop k
      exact this.2.1 i x q hx hq
    · rw [List.getElem?_append_right (by omega)] at hx
      rw [List.getElem?_append_right (by omega), e] at hq
      have := (h.gr g).take k
      exact this.2.1 _ x q hx hq

def spCs (x : Sp) (p : Value × Value) : List Value := [.int .u8 (x.k : Nat), .int .u8 (x.z : Nat), .int .u64 (x.n : Nat), .bool x.be, .bool x.co, .int .u8 (x.fl : Nat), p.1, p.2]
def spT : Ty Sp := ⟨8, spCs, Sp.d, Sp.o, fun _ _ => rfl⟩
def gT : Ty G := ⟨5, fun g p => g.cs p.1 p.2, G.d, G.o, fun _ _ => rfl⟩
theorem spT_cell : ∀ (x : Sp) (p : Value × Value), (∃ q n c, p.1 = Value.slice q n c) → (∃ q n c, p.2 = Value.slice q n c) → ∀ u ∈ spT.cs x p, u.oneCell' = true := by
  rintro x ⟨a, b⟩ ⟨q, n, c, rfl⟩ ⟨q2, n2, c2, rfl⟩ u hu
  simp only [spT, spCs, List.mem_cons, List.not_mem_nil, or_false] at hu
  rcases hu with rfl | rfl | rfl | rfl | rfl | rfl | rfl | rfl <;> rfl
theorem gT_cell : ∀ (x : G) (p : Value × Value), (∃ q n c, p.1 = Value.slice q n c) → (∃ q n c, p.2 = Value.slice q n c) → ∀ u ∈ gT.cs x p, u.oneCell' = true := by
  rintro x ⟨a, b⟩ ⟨q, n, c, rfl⟩ ⟨q2, n2, c2, rfl⟩ u hu
  simp only [gT, G.cs, List.mem_cons, List.not_mem_nil, or_false] at hu
  rcases hu with rfl | rfl | rfl | rfl | rfl <;> rfl
theorem rdA_of_sp {w : World} {v : Value} {l : List Sp} (h : RdSp w v l) (hn : 0 < l.length) : ∃ b o c ps, v = .slice (some ⟨b, o, none⟩) l.length c ∧ l.length ≤ c ∧ c ≤ maxLen ∧ RdA spT w b o l ps := by
  obtain ⟨p, c, rfl, h1, h2, h3⟩ := h
  obtain ⟨b, o, rfl, hc⟩ := h3 hn
  obtain ⟨ps, hpl, hq⟩ := list_of_each (α := Value × Value) (Q := fun i q => ∀ x, l[i]? = some x → SpAt w b (o + i * 8) x q.1 q.2 ∧ Rd w q.1 x.d ∧ Rd w q.2 x.o) l.length (fun i hi => by
    obtain ⟨dv, ov, k1, k2, k3, _⟩ := hc i hi
    exact ⟨(dv, ov), fun x hx => by
      rw [List.getElem?_eq_getElem hi] at hx
      injection hx with hx
      subst hx
      exact ⟨k1, k2, k3⟩⟩)
  refine ⟨b, o, c, ps, rfl, h1, h2, hpl, fun i x q hx hq' => ?_, fun i x q j u hx hq' hj => ?_⟩
  · obtain ⟨hi, e⟩ := List.getElem?_eq_some_iff.1 hq'
    have := (hq i hi x hx).2
    rw [e] at this
    exact this
  · obtain ⟨hi, e⟩ := List.getElem?_eq_some_iff.1 hq'
    have := (hq i hi x hx).1
    rw [e] at this
    obtain ⟨c0, c1, c2, c3, c4, c5, c6, c7⟩ := this
    show w.cell? ⟨b, o + i * 8 + j, none⟩ = some u
    match j, hj with
    | 0, hj => injection hj with hj; subst hj; exact c0
    | 1, hj => injection hj with hj; subst hj; exact c1
    | 2, hj => injection hj with hj; subst hj; exact c2
    | 3, hj => injection hj with hj; subst hj; exact c3
    | 4, hj => injection hj with hj; subst hj; exact c4
    | 5, hj => injection hj with hj; subst hj; exact c5
    | 6, hj => injection hj with hj; subst hj; exact c6
    | 7, hj => injection hj with hj; subst hj; exact c7
    | j + 8, hj => simp [spT, spCs] at hj
theorem sp_of_rdA {w : World} {b o c : Nat} {l : List Sp} {ps : List (Value × Value)} (h : RdA spT w b o l ps) (h1 : l.length ≤ c) (h2 : c ≤ maxLen) (hok : ∀ x ∈ l, x.Ok) : RdSp w (.slice (some ⟨b, o, none⟩) l.length c) l := by
  refine ⟨_, c, rfl, h1, h2, fun _ => ⟨b, o, rfl, fun i hi => ?_⟩⟩
  have hx : l[i]? = some l[i] := List.getElem?_eq_getElem hi
  obtain ⟨q, hq⟩ : ∃ q, ps[i]? = some q := ⟨_, List.getElem?_eq_getElem (by rw [h.1]; exact hi)⟩
  have hc := fun j u => h.2.2 i _ q j u hx hq
  obtain ⟨r1, r2⟩ := h.2.1 i _ q hx hq
  exact ⟨q.1, q.2, ⟨hc 0 _ rfl, hc 1 _ rfl, hc 2 _ rfl, hc 3 _ rfl, hc 4 _ rfl, hc 5 _ rfl, hc 6 _ rfl, hc 7 _ rfl⟩, r1, r2, hok _ (List.getElem_mem hi)⟩
theorem rdA_of_g {w : World} {v : Value} {l : List G} (h : RdG w v l) (hn : 0 < l.length) : ∃ b o c ps, v = .slice (some ⟨b, o, none⟩) l.length c ∧ l.length ≤ c ∧ c ≤ maxLen ∧ RdA gT w b o l ps := by
  obtain ⟨p, c, rfl, h1, h2, h3⟩ := h
  obtain ⟨b, o, rfl, hc⟩ := h3 hn
  obtain ⟨ps, hpl, hq⟩ := list_of_each (α := Value × Value) (Q := fun i q => ∀ x, l[i]? = some x → GAt w b (o + i * 5) x q.1 q.2) l.length (fun i hi => by
    obtain ⟨dv, ov, k1⟩ := hc i hi
    exact ⟨(dv, ov), fun x hx => by
      rw [List.getElem?_eq_getElem hi] at hx
      injection hx with hx
      subst hx
      exact k1⟩)
  refine ⟨b, o, c, ps, rfl, h1, h2, hpl, fun i x q hx hq' => ?_, fun i x q j u hx hq' hj => ?_⟩
  · obtain ⟨hi, e⟩ := List.getElem?_eq_some_iff.1 hq'
    have := hq i hi x hx
    rw [e] at this
    exact ⟨this.rd, this.ro⟩
  · obtain ⟨hi, e⟩ := List.getElem?_eq_some_iff.1 hq'
    have := hq i hi x hx
    rw [e] at this
    obtain ⟨c0, c1, c2, c3, c4, _, _⟩ := this
    show w.cell? ⟨b, o + i * 5 + j, none⟩ = some u
    match j, hj with
    | 0, hj => injection hj with hj; subst hj; exact c0
    | 1, hj => injection hj with hj; subst hj; exact c1
    | 2, hj => injection hj with hj; subst hj; exact c2
    | 3, hj => injection hj with hj; subst hj; exact c3
    | 4, hj => injection hj with hj; subst hj; exact c4
    | j + 5, hj => simp [gT, G.cs] at hj
theorem g_of_rdA {w : World} {b o c : Nat} {l : List G} {ps : List (Value × Value)} (h : RdA gT w b o l ps) (h1 : l.length ≤ c) (h2 : c ≤ maxLen) : RdG w (.slice (some ⟨b, o, none⟩) l.length c) l := by
  refine ⟨_, c, rfl, h1, h2, fun _ => ⟨b, o, rfl, fun i hi => ?_⟩⟩
  have hx : l[i]? = some l[i] := List.getElem?_eq_getElem hi
  obtain ⟨q, hq⟩ : ∃ q, ps[i]? = some q := ⟨_, List.getElem?_eq_getElem (by rw [h.1]; exact hi)⟩
  have hc := fun j u => h.2.2 i _ q j u hx hq
  obtain ⟨r1, r2⟩ := h.2.1 i _ q hx hq
  exact ⟨q.1, q.2, ⟨hc 0 _ rfl, hc 1 _ rfl, hc 2 _ rfl, hc 3 _ rfl, hc 4 _ rfl, r1, r2⟩⟩

/-- x[k:] and x[:k] of rows of structs, k ahead of the end. -/
theorem run_cutR1 {T t : TypeId} {sz bytes : Nat} {z : Value} (hsl : Tryd.prog.underlying t = some (.slice T)) (hinfo : (Tryd.prog.info? T).map (fun i => (i.zero, i.size, i.bytes)) = some (some z, sz, bytes)) (b o n c k : Nat) (hk : k < n) (hc : n ≤ c) (w : World) :
    (Instr.slice t (.slice (some ⟨b, o, none⟩) n c) (some (.int .i64 (k : Nat))) none none).run Tryd.prog w = .ok (.slice (some ⟨b, o + k * sz, none⟩) (n - k) (c - k)) w := by
  obtain ⟨i, hi, hz, hz1, hz2⟩ := info_parts hinfo
  have h1 : (0 : Int) ≤ k ∧ (k : Int) ≤ n := by omega
  have hne : ¬ c = k := by omega
  have e4 : Instr.sliceBound (.int .i64 (k : Nat)) n .sliceB = pure k := by simp [Instr.sliceBound, asIntOf, h1]
  simp [Instr.slice, Instr.sliceBounds, e4, run_underlying hsl, sizeOf, typeInfo, hi, hz1, hne, Lib.addr_add]
theorem run_cutRH {T t : TypeId} {sz bytes : Nat} {z : Value} (hsl : Tryd.prog.underlying t = some (.slice T)) (hinfo : (Tryd.prog.info? T).map (fun i => (i.zero, i.size, i.bytes)) = some (some z, sz, bytes)) (b o n c k : Nat) (hk : k < n) (hc : n ≤ c) (w : World) :
    (Instr.slice t (.slice (some ⟨b, o, none⟩) n c) none (some (.int .i64 (k : Nat))) none).run Tryd.prog w = .ok (.slice (some ⟨b, o, none⟩) k c) w := by
  obtain ⟨i, hi, hz, hz1, hz2⟩ := info_parts hinfo
  have h1 : (0 : Int) ≤ k ∧ (k : Int) ≤ c := by omega
  have hne : ¬ c = 0 := by omega
  have e4 : Instr.sliceBound (.int .i64 (k : Nat)) c .sliceAcap = pure k := by simp [Instr.sliceBound, asIntOf, h1]
  simp [Instr.slice, Instr.sliceBounds, e4, run_underlying hsl, sizeOf, typeInfo, hi, hz1, hne]
  rw [Lib.addr_add]
  rfl
end Go.Proofs.YtgkccbfepjgjoaaDoor
