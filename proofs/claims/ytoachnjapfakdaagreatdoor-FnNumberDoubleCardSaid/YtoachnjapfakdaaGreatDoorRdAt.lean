/- Readers: numbers out of bytes that lie at an address. -/
import Derived.Test.YtoachnjapfakdaaGreatDoorBase
import Derived.Test.YtoachnjapfakdaaGreatDoorProg
import Derived.Test.YtoachnjapfakdaaGreatDoorShelf
import Derived.LoopN
import Derived.Deep.AppendLies
namespace Go.Proofs.YtoachnjapfakdaaGreatDoor
open Go Go.RowKit

theorem blk_set {w : World} {b : Nat} {cs : Array Value} {T : TypeId} {fr : Nat × Nat} (h : w.heap[b]? = some (.cells cs T fr)) (i : Nat) (u : Value) : (w.setCell ⟨b, i, none⟩ u).heap[b]? = some (.cells (cs.setIfInBounds i u) T fr) := by
  simp [World.setCell, Array.getElem?_modify, h]

/-- From place o on block b holds the bytes xs. -/
structure RdAt (w : World) (b o : Nat) (xs : List Int) : Prop where
  cell : ∀ i, i < xs.length → w.cell? ⟨b, o + i, none⟩ = some (.int .u8 (xs.getD i 0))
  byt : Byt xs

theorem RdAt.gr {a w : World} {b o : Nat} {xs : List Int} (h : RdAt a b o xs) (g : Gr a w) : RdAt w b o xs := ⟨fun i hi => g.cell (h.cell i hi), h.byt⟩
theorem RdAt.drew {w : World} {b o : Nat} {xs : List Int} (h : RdAt w b o xs) : RdAt w.drew b o xs := h.gr (Gr.refl w).drew
theorem RdAt.drop {w : World} {b o : Nat} {xs : List Int} (h : RdAt w b o xs) (k : Nat) : RdAt w b (o + k) (xs.drop k) := by
  refine ⟨fun i hi => ?_, fun x hx => h.byt x (List.mem_of_mem_drop hx)⟩
  rw [List.length_drop] at hi
  have := h.cell (k + i) (by omega)
  rw [← Nat.add_assoc] at this
  rw [this]
  simp [List.getD_eq_getElem?_getD]
theorem RdAt.take {w : World} {b o : Nat} {xs : List Int} (h : RdAt w b o xs) (k : Nat) : RdAt w b o (xs.take k) := by
  refine ⟨fun i hi => ?_, fun x hx => h.byt x (List.mem_of_mem_take hx)⟩
  rw [List.length_take] at hi
  rw [h.cell i (by omega)]
  simp only [List.getD_eq_getElem?_getD]
  rw [List.getElem?_take_of_lt (by omega)]
theorem RdAt.rd {w : World} {b o n c : Nat} {xs : List Int} (h : RdAt w b o xs) (hn : xs.length = n) (hc : n ≤ c) (hm : c ≤ maxLen) : Rd w (.slice (some ⟨b, o, none⟩) n c) xs := by
  subst hn
  exact ⟨_, c, rfl, hc, hm, (fun e => by cases e), fun _ => ⟨b, o, rfl, h.cell⟩, h.byt⟩
theorem Rd.at' {w : World} {v : Value} {xs : List Int} (h : Rd w v xs) (hn : 0 < xs.length) : ∃ b o c, v = .slice (some ⟨b, o, none⟩) xs.length c ∧ xs.length ≤ c ∧ c ≤ maxLen ∧ RdAt w b o xs := by
  obtain ⟨p, c, rfl, hc, hm, _, hb, hby⟩ := h
  obtain ⟨b, o, rfl, hcell⟩ := hb hn
  exact ⟨b, o, c, rfl, hc, hm, hcell, hby⟩

theorem wf_byt {xs : List Int} (h : Byt xs) : ∀ z ∈ xs, (Lit.int .u8 z).wf = true := by
  intro z hz
  have := h z hz
  have e1 : IntKind.u8.min = 0 := rfl
  have e2 : IntKind.u8.max = 255 := rfl
  simp [Lit.wf, e1, e2]
  omega

/-- The number that the first two bytes spell, the most significant one first; and the first four. -/
def nat2 (xs : List Int) : Int := xs.getD 0 0 * 256 + xs.getD 1 0
def nat4 (xs : List Int) : Int := xs.getD 0 0 * 16777216 + xs.getD 1 0 * 65536 + xs.getD 2 0 * 256 + xs.getD 3 0
theorem byt_getD {xs : List Int} (h : Byt xs) (i : Nat) : 0 ≤ xs.getD i 0 ∧ xs.getD i 0 < 256 := by
  rw [List.getD_eq_getElem?_getD]
  cases e : xs[i]? with
  | none => simp
  | some x => exact h x (List.mem_of_getElem? e)
theorem nat2_bd {xs : List Int} (h : Byt xs) : 0 ≤ nat2 xs ∧ nat2 xs < 65536 := by
  have h0 := byt_getD h 0; have h1 := byt_getD h 1; unfold nat2; omega
theorem nat4_bd {xs : List Int} (h : Byt xs) : 0 ≤ nat4 xs ∧ nat4 xs < 4294967296 := by
  have h0 := byt_getD h 0; have h1 := byt_getD h 1; have h2 := byt_getD h 2; have h3 := byt_getD h 3; unfold nat4; omega
theorem u8 : U8 Tryz.prog 22 := ⟨Tryz.underlying22, by kernel_rfl⟩

/-- append of bytes, as a step of a region that draws its order. -/
theorem step_append_gr {P : Program} {w0 w : World} {ops : Array Oper} {o : Oper} {a : Act} {K : Act → World → Prop} {Q : Exit → Act → World → Prop} {E : Prop} {t : TypeId} (L : U8 P t) (hgd : o.guard = none) (s x : Operand)
    (ho : o.op = .call { callee := .builtin .append, args := #[s, x], argTypes := #[t, t] }) (hw : Gr w0 w) {v : Value} {xs : List Int} (hs : a.eval s = v) (hown : Own w0.heap.size w v xs)
    {u : Value} {ys : List Int} (hx : a.eval x = u) (hr : Rd w u ys) (hlim : xs.length + ys.length ≤ 140737488355328)
    (h : ∀ v' w', Own w0.heap.size w' v' (xs ++ ys) → Gr w0 w' → K (a.put o.dst v') w') :
    if Region.wanted o (yielded ops a.tmps) = true then Oper.wp P o a w K Q else E := by
  have hwd : Region.wanted o (yielded ops a.tmps) = true := by simp [Region.wanted, hgd]
  rw [if_pos hwd]
  exact wp_append_bytes L s x ho hs hown hx hr hlim hw.size fun v' w' h2 h3 _ => h v' w' h2 (hw.grown h3 hown.row)

end Go.Proofs.YtoachnjapfakdaaGreatDoor
