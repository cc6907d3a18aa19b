/- Packets REFUSE: the reference's bytes. -/
import Derived.Test.YtoaajnhbcekglaaDoorPkRef
import Derived.Lib.AppendStr
namespace Go.Proofs.YtoaajnhbcekglaaDoor
open Go Go.RowKit

/-- The bytes of a string as numbers. -/
def nums (s : ByteArray) : List Int := s.data.toList.map fun b => (b.toNat : Int)
theorem nums_byt (s : ByteArray) : Byt (nums s) := by
  intro x hx
  obtain ⟨b, _, rfl⟩ := List.mem_map.1 hx
  have := b.toNat_lt
  omega
theorem nums_length (s : ByteArray) : (nums s).length = s.size := by rw [nums, List.length_map, Array.length_toList]; rfl
theorem strCells_nums (s : ByteArray) : Lib.strCells s = (nums s).map (Value.int .u8) := by simp [Lib.strCells, nums]

theorem wpList_append_str {P : Program} {w0 w : World} {ops : Array Oper} {rest : List Oper} {o : Oper} {a : Act} {Q : Exit → Act → World → Prop} {t u : TypeId} (L : U8 P t) (hu : P.underlying u = some .string) (hgd : o.guard = none) (s x : Operand)
    (ho : o.op = .call { callee := .builtin .append, args := #[s, x], argTypes := #[t, u] }) (hw : Gr w0 w) {v : Value} {xs : List Int} (hs : a.eval s = v) (hown : Own w0.heap.size w v xs)
    {str : ByteArray} (hx : a.eval x = .string str) (hlim : xs.length + str.size ≤ 140737488355328)
    (h : ∀ v' w', Own w0.heap.size w' v' (xs ++ nums str) → Gr w0 w' → wpList P ops Q rest (a.put o.dst v') w') : wpList P ops Q (o :: rest) a w := by
  obtain ⟨i, hi, hz0, hz1, hz2⟩ := info_parts L.info
  refine Lib.wpList_append_own_string w hgd s x t u ho w0.heap.size 5 i L.under hu hi hz0 hz1 hz2 v xs.length (xs.map (Value.int .u8)) hs hown.1 str hx (by simp only [maxLen]; omega) hlim hw.size ?_
  intro v' w' h1 h2 _
  refine h v' w' ⟨?_, byt_append hown.2 (nums_byt str)⟩ (hw.grown h2 hown.row)
  rw [List.length_append, nums_length, List.map_append, ← strCells_nums]
  exact h1

/-- The bytes of a packet REFUSE. -/
def refL (len usr sys : Int) (n : Nat) (msg : List Int) : List Int := be2 len ++ [0, 0, 4, 0, 0, 0, usr, sys] ++ be2 n ++ msg

set_option maxRecDepth 100000 in
set_option maxHeartbeats 1000000 in
theorem spec_Refuse (len usr sys : Int) (str : ByteArray) (w : World) (hl : 0 ≤ len ∧ len < 65536) (hu : 0 ≤ usr ∧ usr < 256) (hs : 0 ≤ sys ∧ sys < 256) (hn : str.size ≤ 60000) :
    Calls Tryd.prog 14 #[.int .u16 len, .int .u8 usr, .int .u8 sys, .string str] w fun e w' => ∃ u, e = .returned u ∧ Own w.heap.size w' u (refL len usr sys str.size (nums str)) ∧ Gr w w' := by
  obtain ⟨hl0, hl1⟩ := hl
  obtain ⟨hu0, hu1⟩ := hu
  obtain ⟨hs0, hs1⟩ := hs
  obtain ⟨n, hsz⟩ : ∃ n, str.size = n := ⟨_, rfl⟩
  rw [hsz] at hn ⊢
  have e1 : IntKind.u64.wrap len = len := IntWalk.u64_in _ (by omega)
  have e2 : IntKind.u64.wrap (n : Int) = n := IntWalk.u64_in _ (by omega)
  go_enter Tryd.func14, Tryd.ntmps14
  go_wp2_with (first
    | (at_make; go_must (refine wpList_make_gr u8 rfl _ _ rfl (Gr.refl w) .i64 .i64 12 12 12 rfl rfl rfl rfl (by omega) _ rfl ?_); intro w1 ho1 hg1 hg1' hb1)
    | (go_at_call 30; refine (packetPut2 w.heap.size 12 (List.replicate 12 0) 0 12 len _ ho1 (by omega) (by simp) (by omega)).mono ?_; rintro e w2 ⟨rfl, ho2, hf2⟩; have hg2 := hf2 _ hg1 (Nat.le_refl _); clear ho1; have c4 := ho2.cell 4 (by simp [putAt_length]); have c8 := ho2.cell 8 (by simp [putAt_length]); have c9 := ho2.cell 9 (by simp [putAt_length]); have f4 := ho2.free 4; have f8 := ho2.free 8; have f9 := ho2.free 9; have ho3 := ((ho2.setCell 4 (by simp [putAt_length]) 4 (by omega)).setCell 8 (by simp [putAt_length]) usr ⟨hu0, hu1⟩).setCell 9 (by simp [putAt_length]) sys ⟨hs0, hs1⟩; have hg3 := ((hg2.setCell (p := ⟨w.heap.size, 4, none⟩) (Nat.le_refl _) (.int .u8 4)).setCell (p := ⟨w.heap.size, 8, none⟩) (Nat.le_refl _) (.int .u8 usr)).setCell (p := ⟨w.heap.size, 9, none⟩) (Nat.le_refl _) (.int .u8 sys))
    | (go_at_call 30; go_must (refine (packetPut2 w.heap.size 12 _ 10 12 n _ ho3 (by omega) (by simp [putAt_length]) (by omega)).mono ?_); rintro e w4 ⟨rfl, ho4, hf4⟩; have hg4 := hf4 _ hg3 (Nat.le_refl _))
    | (at_builtin; go_must (refine wpList_append_str (w0 := w) u8 Tryd.underlying9 rfl _ _ rfl hg4 rfl (ho4.own (Nat.le_refl _)) rfl (by rw [hsz]; simp [putAt_length]; omega) ?_); intro v5 w5 ho5 hg5))
  go_ret
  have hlist : putAt ((((putAt (List.replicate 12 0) 0 (be2 len)).set 4 4).set 8 usr).set 9 sys) 10 (be2 n) = be2 len ++ [0, 0, 4, 0, 0, 0, usr, sys] ++ be2 n := rfl
  rw [hlist] at ho5
  exact ⟨_, rfl, ho5, hg5⟩

/-- Facts of a packet whose message is cut off. -/
theorem ref_cut (len usr sys : Int) (n : Nat) (msg : List Int) (m : Nat) (hn : n < 65536) (hm : m < n) (hl : msg.length = n) : ((refL len usr sys n msg).take (12 + m)).length = 12 + m ∧
    nat2 (((refL len usr sys n msg).take (12 + m)).drop 10) = n ∧ ((refL len usr sys n msg).take (12 + m)).getD 8 0 = usr ∧ ((refL len usr sys n msg).take (12 + m)).getD 9 0 = sys := by
  have e : (refL len usr sys n msg).take (12 + m) = be2 len ++ [0, 0, 4, 0, 0, 0, usr, sys] ++ be2 n ++ msg.take m := by
    unfold refL
    rw [show 12 + m = (be2 len ++ [0, 0, 4, 0, 0, 0, usr, sys] ++ be2 n).length + m by rfl, List.take_length_add_append]
  rw [e]
  refine ⟨by simp [be2]; omega, ?_, rfl, rfl⟩
  show ((n : Int) / 256 % 256) * 256 + (n : Int) % 256 = n
  omega
end Go.Proofs.YtoaajnhbcekglaaDoor
