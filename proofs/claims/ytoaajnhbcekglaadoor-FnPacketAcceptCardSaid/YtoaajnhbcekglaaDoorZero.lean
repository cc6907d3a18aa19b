/- append of zeros (append(b, make([]byte, m)...)) to a full row of bytes of the call's own: a new row. Condition: it does not fit into the capacity. -/
import Derived.Test.YtoaajnhbcekglaaDoorBase
import Derived.Laws.Append
namespace Go.Proofs.YtoaajnhbcekglaaDoor
open Go Go.RowKit

theorem zeroCells_bytes (m : Nat) : Builtin.zeroCells #[Value.int .u8 0] m = ((List.replicate m (0 : Int)).map (Value.int .u8)).toArray := by
  apply Array.ext'
  simp only [Builtin.zeroCells, Array.toList_map, Array.toList_range]
  rw [List.map_replicate]
  apply List.ext_getElem
  · simp
  · intro i h1 h2; simp [Nat.mod_one]

theorem run_zeros_grow {P : Program} (w : World) {t ti ty : TypeId} (L : U8 P t) {k : IntKind} (hti : P.underlying ti = some (.int k)) (g cap : Nat) (xs : List Int) (hown : OwnAt w g cap xs) (kx : IntKind) (m : Nat)
    (hm : cap < xs.length + m) (hlim : xs.length + m ≤ 140737488355328) :
    ∃ c w', (Builtin.append_ #[t, ti] ty #[.slice (some ⟨g, 0, none⟩) xs.length cap, .int kx m]).run P w = .ok (.slice (some ⟨w.heap.size, 0, none⟩) (xs.length + m) c) w' ∧
      OwnAt w' w.heap.size c (xs ++ List.replicate m 0) ∧ Gr w w' := by
  obtain ⟨i, hi, hz, hz1, hz2⟩ := info_parts L.info
  have hcap := hown.2.1
  have hw : IntKind.i64.wrap (m : Int) = m := by rw [IntKind.wrap_i64]; omega
  have hneg : ¬ ((m : Int) < 0) := by omega
  have hbig : ¬ (281474976710656 < (m : Int)) := by omega
  have hn : ¬ (xs.length + m ≤ cap) := by omega
  have h63' : ¬ (9223372036854775807 < ((xs.length : Int) + (m : Int))) := by omega
  have hfit := growslice_fits (bytes := 1) hm (by omega)
  have h48' : ¬ (281474976710656 < Builtin.nextslicecap (xs.length + m) cap) := by omega
  have hmz : ¬ (m = 0) := by omega
  have hfo : (Builtin.firstCells 1 xs.length (.slice (some ⟨g, 0, none⟩) xs.length cap)).run P w.drew = .ok (xs.map (Value.int .u8)).toArray w.drew :=
    run_firstCells_some (P := P) w.drew 1 xs.length _ xs.length cap (xs.map (Value.int .u8)) (by simp) (fun j u hu => by
      have hj : j < xs.length := by have := (List.getElem?_eq_some_iff.1 hu).1; simpa using this
      rw [Lib.addr_add, Nat.zero_add]
      have := hown.cell j hj
      rw [List.getElem?_map, List.getElem?_eq_getElem hj] at hu
      rw [List.getD_eq_getElem?_getD, List.getElem?_eq_getElem hj] at this
      simp only [Option.map_some, Option.some.injEq] at hu
      rw [← hu]
      exact this)
  have hrun : (Builtin.append_ #[t, ti] ty #[.slice (some ⟨g, 0, none⟩) xs.length cap, .int kx m]).run P w =
      .ok (.slice (some ⟨w.heap.size, 0, none⟩) (xs.length + m) (grownCap w (xs.length + m) cap 5)) (w.drew.alloc (.cells (((xs ++ List.replicate m 0).map (Value.int .u8)).toArray ++ Builtin.zeroCells #[Value.int .u8 0] (grownCap w (xs.length + m) cap 5 - (xs.length + m))) 5)) := by
    simp [Builtin.append_, run_underlying L.under, run_underlying hti, sizeOf, typeInfo, zeroValue, hi, hz, hz1, hz2, asInt, asIntOf, hw, hneg, hbig, hn, h63', h48', Question.forced, hfo, newRow, grownCap, hmz]
    congr 2
    apply Array.ext'
    simp only [List.append_assoc, Array.toList_append]
    rw [show (Value.int IntKind.u8 0).cells = #[Value.int .u8 0] from rfl, zeroCells_bytes m]
    simp
  refine ⟨_, _, hrun, ?_, ((Gr.refl w).drew).alloc _⟩
  have hge := grownCap_ge w (xs.length + m) cap 5
  have hcm : grownCap w (xs.length + m) cap 5 ≤ maxLen := grownCap_le_maxLen w (xs.length + m) cap 5 (by simp only [maxLen]; omega)
  refine ⟨⟨_, heap_alloc_new w.drew _, ?_, ?_⟩, by simp; omega, hcm, byt_append hown.byt (byt_rep m)⟩
  · simp [zeroCells_bytes]; omega
  · simp only [Array.toList_append]
    rw [List.take_append_of_le_length (by simp)]
    exact List.take_of_length_le (by simp)

theorem wpList_zeros_gr {P : Program} {w0 w : World} {ops : Array Oper} {rest : List Oper} {o : Oper} {a : Act} {Q : Exit → Act → World → Prop} {t ti : TypeId} (L : U8 P t) {k : IntKind} (hti : P.underlying ti = some (.int k)) (hgd : o.guard = none) (s x : Operand)
    (ho : o.op = .call { callee := .builtin .append, args := #[s, x], argTypes := #[t, ti] }) (hw : Gr w0 w) (g cap n : Nat) (xs : List Int) (hn : n = xs.length) (hs : a.eval s = .slice (some ⟨g, 0, none⟩) n cap) (hown : OwnAt w g cap xs)
    (kx : IntKind) (M : Int) (m : Nat) (hM : M = (m : Int)) (hx : a.eval x = .int kx M) (hm : cap < xs.length + m) (hlim : xs.length + m ≤ 140737488355328)
    (h : ∀ c w', OwnAt w' w.heap.size c (xs ++ List.replicate m 0) → Gr w w' → Gr w0 w' → wpList P ops Q rest (a.put o.dst (.slice (some ⟨w.heap.size, 0, none⟩) (xs.length + m) c)) w') : wpList P ops Q (o :: rest) a w := by
  subst hM
  subst hn
  obtain ⟨c, w', hrun, h2, h3⟩ := run_zeros_grow (ty := o.type) w L hti g cap xs hown kx m hm hlim
  refine wpList_plain hgd fun K hK => ?_
  unfold Oper.wp execOp
  simp only [ho, resolve, invoke, builtin, Sem.run_bind, Sem.run_pure, Result.andThen_ok, List.map_toArray, List.map_cons, List.map_nil, hs, hx, hrun]
  exact hK _ _ (h c w' h2 h3 (hw.trans h3))

end Go.Proofs.YtoaajnhbcekglaaDoor
