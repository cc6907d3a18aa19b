/- How a law's walk becomes its row: a law that returns true and leaves all that was there as it was. No condition: lemmas over every program. -/
import Derived.Test.YtoachnjapfakdaaGreatDoorBase
import Derived.ProofKit
import Derived.OpenShut
import Derived.Carry
import Derived.LaidMore
import Derived.Deep.DeepHandedRow
import Derived.Deep.DeepWitnessRowRef
import Derived.Deep.Slices
namespace Go.Proofs.YtoachnjapfakdaaGreatDoor
open Go Go.RowKit Go.ChangeShapes Go.WideShapes Go.ChangeAt

theorem gr_trodAll {H : Type} {enc : TypeId × Value → H} {P : Program} (hl : laidOutB P = true) {W W' : World} (hg : Gr W W') : ∀ (ts : List TypeId) (vs : List Value) (ds : List (DataW H)) (ps : List MemPlace),
    (∀ t ∈ ts, P.readableRec t = true ∧ t < P.types.size) → DataW.TrodAll enc P W 0 (fun _ => true) true ts vs ds ps → (∀ x ∈ ps, x.block < W.heap.size) →
    DataW.TrodAll enc P W' 0 (fun b => decide (b < W.heap.size)) true ts vs ds ps
  | [], [], [], _, _, h, _ => h
  | t :: ts, v :: vs, d :: ds, ps, ht, h, hlt => by
    obtain ⟨p, q, h1, h2, rfl⟩ := h
    have h3 := ht t (by simp)
    exact ⟨p, q, Below.trod hl h3.1 h3.2 h1 hg (fun x hx => hlt x (by simp [hx])), gr_trodAll hl hg ts vs ds q (fun u hu => ht u (by simp [hu])) h2 (fun x hx => hlt x (by simp [hx])), rfl⟩
  | [], _ :: _, _, _, _, h, _ => h.elim
  | [], [], _ :: _, _, _, h, _ => h.elim
  | _ :: _, [], _, _, _, h, _ => h.elim
  | _ :: _, _ :: _, [], _, _, h, _ => h.elim

/-- The post of a law's row, out of what its walk shows. -/
theorem law_post {H : Type} {enc : TypeId × Value → H} {P : Program} {f : Func} {s : ChangeSpec} {W W' : World} {args : Array Value} {ds gs : List (DataW H)} {before : List MemPlace} {T : TypeId}
    (hl : laidOutB P = true) (hp : (f.params.toList.all fun t => P.readableRec t && decide (t < P.types.size)) = true) (hv : s.vars = []) (hr : f.resultTypes = #[T]) (hT : P.underlying T = some .bool)
    (hfn : s.fn H (ds ++ gs) = { results := [.lit (.bool true)], args := ds }) (hW : DataW.Whole enc P f.params.toList s.vars false W args.toList ds gs before) (hg : Gr W W') :
    s.post enc P f false true false false W args (.bool true) W' := by
  have hlt := hW.lt
  have hW' := hW
  obtain ⟨p, q, hA, hV, rfl, hfz, hnd⟩ := hW
  refine ⟨ds, gs, _, [], p, [], hW', ?_, ?_, ?_, Below.frame hg _, fun h => by cases h⟩
  · rw [hr, hfn]
    exact trodAll_mk1 (shut_bool hT true)
  · rw [hfn]
    exact gr_trodAll hl hg _ _ _ _ (fun t ht => by have := List.all_eq_true.1 hp t ht; simpa using this) hA (fun x hx => hlt x (by simp [hx]))
  · rw [hfn, hv]; rfl

end Go.Proofs.YtoachnjapfakdaaGreatDoor
