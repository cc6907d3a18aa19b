/- bytes.Compare. -/
import Derived.Test.YtkaoibjkebiliaaDoorNmF
import Derived.Lib.Bytealg
import Derived.Lib.BytesEntry
import Derived.Laws.Externs
namespace Go.Proofs.YtkaoibjkebiliaaDoor
open Go Go.RowKit

theorem Rd.loaded {w : World} {v : Value} {xs : List Int} (h : Rd w v xs) : (Extern.Bytes.bytesOf v).run Tryd.prog w = .ok ⟨(Lib.bytesOf xs).toArray⟩ w := by
  obtain ⟨p, c, rfl, _, _, hnil, hb, _⟩ := h
  cases p with
  | none =>
    have : xs = [] := by
      rcases Nat.eq_zero_or_pos xs.length with h | h
      · exact List.eq_nil_of_length_eq_zero h
      · obtain ⟨_, _, e, _⟩ := hb h; cases e
    subst this
    rfl
  | some a =>
    have hl := Lib.run_loadBytesX (P := Tryd.prog) w xs a .empty (fun j x hj => by
      have hjl : j < xs.length := (List.getElem?_eq_some_iff.1 hj).1
      obtain ⟨b, o, e, hc⟩ := hb (by omega)
      injection e with e
      subst e
      rw [Lib.addr_add, hc j hjl, List.getD_eq_getElem?_getD, hj]
      rfl)
    rw [show Extern.Bytes.bytesOf (.slice (some a) xs.length c) = Extern.Bytes.loadBytes a xs.length .empty from rfl, hl]
    congr 2
    simp

theorem bytealgCompare (v u : Value) (xs ys : List Int) (w : World) (hx : Rd w v xs) (hy : Rd w u ys) :
    (callFunc 28 #[v, u]).run Tryd.prog w = .ok (.value (.int .i64 (Lib.compareBytes (Lib.bytesOf xs) (Lib.bytesOf ys)))) w := by
  rw [run_callFunc_extern Tryd.func28 (by kernel_rfl) (by kernel_rfl) (by kernel_rfl) (e := Extern.BytealgCompare.compare) (by kernel_rfl)]
  have e : (Extern.BytealgCompare.compare #[v, u]).run Tryd.prog w = .ok (.int .i64 (Lib.compareBytes (Lib.bytesOf xs) (Lib.bytesOf ys))) w := by
    change Sem.run Tryd.prog (do pure (goInt (Extern.BytealgCompare.cmp (← Extern.Bytes.bytesOf v) (← Extern.Bytes.bytesOf u)))) w = _
    simp only [Sem.run_bind, hx.loaded, hy.loaded, Sem.run_pure, Result.andThen]
    rw [Lib.cmp_eq]
    simp [goInt]
  rw [e]
  rfl

theorem compare (v u : Value) (xs ys : List Int) (w : World) (hx : Rd w v xs) (hy : Rd w u ys) :
    Calls Tryd.prog 11 #[v, u] w fun e w' => e = .returned (.int .i64 (Lib.compareBytes (Lib.bytesOf xs) (Lib.bytesOf ys))) ∧ w' = w := by
  have h := bytealgCompare v u xs ys w hx hy
  go_enter Tryd.func11, Tryd.ntmps11
  go_wp2
  go_ret
  exact ⟨rfl, rfl⟩
end Go.Proofs.YtkaoibjkebiliaaDoor
