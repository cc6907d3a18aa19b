/- bytes.Compare. -/
import Derived.Test.YtgkccbfepjgjoaaDoorSeX
import Derived.Test.YtgkccbfepjgjoaaDoorPkE
import Derived.Lib.Bytealg
import Derived.Lib.BytesEntry
import Derived.Laws.Externs
namespace Go.Proofs.YtgkccbfepjgjoaaDoor
open Go Go.RowKit

theorem Rd.loaded {w : World} {v : Value} {xs : List Int} (h : Rd w v xs) : (Extern.Bytes.bytesOf v).run Tryd.prog w = .ok ⟨(Lib.bytesOf xs).toArray⟩ w := by
  obtain ⟨p, c, rfl, _, _, hnil, hb, _⟩ := h
  cases p with
  | none =>
    have : xs = [] := by
      rcases Nat.eq_zero_or_pos xs.length with h | h
      · exact List.eq_nil_of_length_eq_zero h
      · obtain ⟨_, _, e, _⟩ := hb h; cases e
    subst this
    rfl
  | some a =>
    have hl := Lib.run_loadBytesX (P := Tryd.prog) w xs a .empty (fun j x hj => by
      have hjl : j < xs.length := (List.getElem?_eq_some_iff.1 hj).1
      obtain ⟨b, o, e, hc⟩ := hb (by omega)
      injection e with e
      subst e
      rw [Lib.addr_add, hc j hjl, List.getD_eq_getElem?_getD, hj]
      rfl)
    rw [show Extern.Bytes.bytesOf (.slice (some a) xs.length c) = Extern.Bytes.loadBytes a xs.length .empty from rfl, hl]
    congr 2
    simp

theorem bytealgCompare (v u : Value) (xs ys : List Int) (w : World) (hx : Rd w v xs) (hy : Rd w u ys) :
    (callFunc 49 #[v, u]).run Tryd.prog w = .ok (.value (.int .i64 (Lib.compareBytes (Lib.bytesOf xs) (Lib.bytesOf ys)))) w := by
  rw [run_callFunc_extern Tryd.func49 (by kernel_rfl) (by kernel_rfl) (by kernel_rfl) (e := Extern.BytealgCompare.compare) (by kernel_rfl)]
  have e : (Extern.BytealgCompare.compare #[v, u]).run Tryd.prog w = .ok (.int .i64 (Lib.compareBytes (Lib.bytesOf xs) (Lib.bytesOf ys))) w := by
    change Sem.run Tryd.prog (do pure (goInt (Extern.BytealgCompare.cmp (← Extern.Bytes.bytesOf v) (← Extern.Bytes.bytesOf u)))) w = _
    simp only [Sem.run_bind, hx.loaded, hy.loaded, Sem.run_pure, Result.andThen]
    rw [Lib.cmp_eq]
    simp [goInt]
  rw [e]
  rfl

theorem compare (v u : Value) (xs ys : List Int) (w : World) (hx : Rd w v xs) (hy : Rd w u ys) :
    Calls Tryd.prog 23 #[v, u] w fun e w' => e = .returned (.int .i64 (Lib.compareBytes (Lib.bytesOf xs) (Lib.bytesOf ys))) ∧ w' = w := by
  have h := bytealgCompare v u xs ys w hx hy
  go_enter Tryd.func23, Tryd.ntmps23
  go_wp2
  go_ret
  exact ⟨rfl, rfl⟩

/-- Of lists that are equally long: the last bytes tell where all ahead are equal. -/
theorem cmp_snoc : ∀ (xs ys : List UInt8) (x y : UInt8), xs.length = ys.length → Lib.compareBytes (xs ++ [x]) (ys ++ [y]) = if Lib.compareBytes xs ys = 0 then Lib.compareBytes [x] [y] else Lib.compareBytes xs ys
  | [], [], x, y, _ => by simp [Lib.compareBytes]
  | a :: xs, b :: ys, x, y, h => by
    have ih := cmp_snoc xs ys x y (by simpa using h)
    simp only [List.cons_append, Lib.compareBytes]
    by_cases h1 : a < b
    · simp [h1]
    · by_cases h2 : b < a
      · simp [h1, h2]
      · simp only [h1, h2, if_false]
        exact ih
  | [], _ :: _, _, _, h => by simp at h
  | _ :: _, [], _, _, h => by simp at h
theorem be_succ (n v : Nat) : Lib.beBytes (n + 1) v = Lib.beBytes n (v / 256) ++ [(v % 256).toUInt8] := by simp [Lib.beBytes, Lib.leBytes]
theorem cmp_one (x y : Nat) (hx : x < 256) (hy : y < 256) : (decide (Lib.compareBytes [x.toUInt8] [y.toUInt8] < 0) = decide (x < y)) ∧ (decide (Lib.compareBytes [x.toUInt8] [y.toUInt8] = 0) = decide (x = y)) := by
  have e : ∀ z : Nat, z < 256 → z.toUInt8.toNat = z := fun z hz => by simp [Nat.toUInt8, UInt8.toNat_ofNat']; omega
  simp only [Lib.compareBytes, UInt8.lt_iff_toNat_lt, e x hx, e y hy]
  by_cases h1 : x < y
  · simp [h1]; omega
  · by_cases h2 : y < x
    · simp [h1, h2]; omega
    · simp [h1, h2]; omega
theorem cmp_be : ∀ (n a b : Nat), a < 256 ^ n → b < 256 ^ n → (Lib.compareBytes (Lib.beBytes n a) (Lib.beBytes n b) < 0 ↔ a < b) ∧ (Lib.compareBytes (Lib.beBytes n a) (Lib.beBytes n b) = 0 ↔ a = b)
  | 0, a, b, ha, hb => by
    simp at ha hb
    subst ha; subst hb
    simp [Lib.beBytes, Lib.leBytes, Lib.compareBytes]
  | n + 1, a, b, ha, hb => by
    rw [Nat.pow_succ] at ha hb
    obtain ⟨i1, i2⟩ := cmp_be n (a / 256) (b / 256) (by omega) (by omega)
    obtain ⟨o1, o2⟩ := cmp_one (a % 256) (b % 256) (by omega) (by omega)
    have o1 := decide_eq_decide.1 o1
    have o2 := decide_eq_decide.1 o2
    rw [be_succ, be_succ, cmp_snoc _ _ _ _ (by simp [Lib.beBytes_length])]
    by_cases h0 : Lib.compareBytes (Lib.beBytes n (a / 256)) (Lib.beBytes n (b / 256)) = 0
    · have := i2.1 h0
      rw [if_pos h0]
      constructor
      · rw [o1]; omega
      · rw [o2]; omega
    · rw [if_neg h0]
      have hne : ¬ a / 256 = b / 256 := fun h => h0 (i2.2 h)
      constructor
      · rw [i1]; omega
      · constructor
        · intro h; exact absurd h h0
        · rintro rfl; exact absurd rfl hne
theorem bytesOf_numB (be : Bool) (n v : Nat) : Lib.bytesOf (numB be n v) = if be = true then Lib.beBytes n v else Lib.leBytes n v := by
  unfold numB Lib.bytesOf
  rw [List.map_map]
  cases be <;> simp [Function.comp_def]
theorem numB_reverse (n v : Nat) : (numB false n v).reverse = numB true n v := by
  unfold numB
  rw [← List.map_reverse]
  simp [Lib.beBytes]
end Go.Proofs.YtgkccbfepjgjoaaDoor
