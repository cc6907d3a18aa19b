/- A session's readers of numbers. -/
import Derived.Test.YtgkccbfepjgjoaaDoorSeB
import Derived.Lib.EndianZ
namespace Go.Proofs.YtgkccbfepjgjoaaDoor
open Go Go.RowKit

theorem run_cut1 {P : Program} {t : TypeId} (L : U8 P t) (b o n c k : Nat) (K : Int) (hK : K = (k : Int)) (hk : k ≤ n) (w : World) :
    (Instr.slice t (.slice (some ⟨b, o, none⟩) n c) (some (.int .i64 K)) none none).run P w = .ok (.slice (some ⟨b, cutOff o c k, none⟩) (n - k) (c - k)) w := by
  subst hK
  obtain ⟨i, hi, hz, hz1, hz2⟩ := info_parts L.info
  have h1 : (0 : Int) ≤ k ∧ (k : Int) ≤ n := by omega
  have e3 : (if c = k then some (⟨b, o, none⟩ : Addr) else some ((⟨b, o, none⟩ : Addr).add k)) = some ⟨b, cutOff o c k, none⟩ := by
    unfold cutOff
    rw [Lib.addr_add]
    split <;> rfl
  have e4 : Instr.sliceBound (.int .i64 k) n .sliceB = pure k := by simp [Instr.sliceBound, asIntOf, h1]
  simp [Instr.slice, Instr.sliceBounds, e4, run_underlying L.under, sizeOf, typeInfo, hi, hz1, e3]

theorem beFromZ_zeros (k : Nat) (l : List Int) : Lib.beFromZ 0 (List.replicate k 0 ++ l) = Lib.beFromZ 0 l := by
  induction k with
  | zero => rfl
  | succ k ih => rw [List.replicate_succ, List.cons_append, Lib.beFromZ]; simpa using ih
theorem leZ_zeros (k : Nat) : Lib.leZ (List.replicate k 0) = 0 := by
  induction k with
  | zero => rfl
  | succ k ih => rw [List.replicate_succ, Lib.leZ, ih]; rfl
theorem leZ_append (l : List Int) (k : Nat) : Lib.leZ (l ++ List.replicate k 0) = Lib.leZ l := by
  induction l with
  | nil => exact leZ_zeros k
  | cons a t ih => rw [List.cons_append, Lib.leZ, Lib.leZ, ih]

/-- The number that bytes spell, as the program has it. -/
def numV (bigE : Bool) (l : List Int) : Int := wrap64 (if bigE = true then Lib.beZ l else Lib.leZ l)

/-- Eight bytes, of which some are filled. -/
def tempL (bigE : Bool) (l : List Int) : List Int := if bigE = true then List.replicate (8 - l.length) 0 ++ l else l ++ List.replicate (8 - l.length) 0
theorem tempL_length (bigE : Bool) (l : List Int) (h : l.length ≤ 8) : (tempL bigE l).length = 8 := by
  unfold tempL; split <;> simp <;> omega
theorem tempL_byt (bigE : Bool) {l : List Int} (h : Byt l) : Byt (tempL bigE l) := by
  unfold tempL; split
  · exact byt_append (byt_rep _) h
  · exact byt_append h (byt_rep _)
theorem temp_be (l : List Int) (h : l.length ≤ 8) : Lib.beZ ((tempL true l).take 8) = Lib.beZ l := by
  rw [List.take_of_length_le (by rw [tempL_length _ _ h]; exact Nat.le_refl _)]
  exact beFromZ_zeros _ _
theorem temp_le (l : List Int) (h : l.length ≤ 8) : Lib.leZ ((tempL false l).take 8) = Lib.leZ l := by
  rw [List.take_of_length_le (by rw [tempL_length _ _ h]; exact Nat.le_refl _)]
  exact leZ_append _ _

theorem splice_be (l : List Int) (h : l.length ≤ 8) : splice ((List.replicate 8 (0 : Int)).map (Value.int .u8)) (8 - l.length) (l.map (Value.int .u8)) = (tempL true l).map (Value.int .u8) := by
  unfold splice tempL
  rw [if_pos rfl, List.map_append, List.map_replicate, List.map_replicate, List.take_replicate, List.drop_replicate, Nat.min_eq_left (by omega), List.length_map]
  rw [show 8 - (8 - l.length + l.length) = 0 by omega, List.replicate_zero, List.append_nil]
theorem splice_le (l : List Int) (_h : l.length ≤ 8) : splice ((List.replicate 8 (0 : Int)).map (Value.int .u8)) 0 (l.map (Value.int .u8)) = (tempL false l).map (Value.int .u8) := by
  unfold splice tempL
  rw [if_neg (by simp), List.map_append, List.map_replicate, List.map_replicate, List.take_zero, List.nil_append, List.drop_replicate, List.length_map]
  rw [Nat.zero_add]

theorem ownAt_cur {w : World} {g : Nat} {xs : List Int} (h : OwnAt w g xs.length xs) : w.heap[g]? = some (.cells (xs.map (Value.int .u8)).toArray 5 (0, 0)) := by
  obtain ⟨⟨cur, hh, hs, ht⟩, _⟩ := h
  rw [hh]
  congr 2
  apply Array.ext'
  rw [← ht, List.take_of_length_le (by rw [Array.length_toList]; omega)]

/-- 'copy' of bytes into a whole row of the call's own. -/
theorem rdAt_of_heap {w : World} {g : Nat} {xs : List Int} {T : TypeId} (h : w.heap[g]? = some (.cells (xs.map (Value.int .u8)).toArray T (0, 0))) (hb : Byt xs) : RdAt w g 0 xs := by
  refine ⟨fun i hi => ?_, hb⟩
  rw [Nat.zero_add, blk_cell h i]
  simp [List.getD_eq_getElem?_getD, hi]

theorem u8size : (Tryd.prog.info? 5).map (·.size) = some 1 := by kernel_rfl
theorem src_cells {w : World} {b o : Nat} {xs : List Int} (h : RdAt w b o xs) : ∀ j v, (xs.map (Value.int .u8))[j]? = some v → w.cell? ((⟨b, o, none⟩ : Addr).add j) = some v := by
  intro j u hu
  have hj : j < xs.length := by have := (List.getElem?_eq_some_iff.1 hu).1; simpa using this
  rw [Lib.addr_add, h.cell j hj]
  rw [List.getElem?_map, List.getElem?_eq_getElem hj] at hu
  rw [List.getD_eq_getElem?_getD, List.getElem?_eq_getElem hj]
  simpa using hu

theorem copy8 (w0 w : World) (g off n m c b o : Nat) (xs l : List Int) (ty : TypeId) (h0 : Gr w0 w) (hg0 : w0.heap.size ≤ g) (hg : w.heap[g]? = some (.cells (xs.map (Value.int .u8)).toArray 5 (0, 0))) (hr : RdAt w b o l) (hl : l.length = n) (hfit : off + n ≤ xs.length) :
    ∃ w', (Builtin.copy_ #[24, 24] ty #[.slice (some ⟨g, off, none⟩) n m, .slice (some ⟨b, o, none⟩) n c]).run Tryd.prog w = .ok (goInt n) w' ∧
      w'.heap[g]? = some (.cells (splice (xs.map (Value.int .u8)) off (l.map (Value.int .u8))).toArray 5 (0, 0)) ∧ Gr w0 w' := by
  have := run_copy_row (P := Tryd.prog) w 24 24 ty 5 g off n m ⟨b, o, none⟩ n c (xs.map (Value.int .u8)).toArray 5 (l.map (Value.int .u8)) Tryd.underlying24 u8size hg (by rw [List.length_map, hl]; exact (Nat.min_self n).symm) (src_cells hr) (by simp; omega) (one_cells _)
  rw [List.length_map, hl] at this
  refine ⟨_, this, ?_, below_setRow h0 hg0 _⟩
  rw [setRow_heap w g _ _ _ _ hg]
  simp [splice, hl]

set_option maxRecDepth 100000 in
/-- A number of n bytes, the most significant one first. -/
theorem int64_be (s : Nat) (big : Bool) (ch : Int) (E : Value) (r : List Int) (n : Nat) (w : World) (h : Ss w s big ch E r) (h1 : 1 ≤ n) (h8 : n ≤ 8) (hn : n ≤ r.length) :
    Calls Tryd.prog 68 #[.pointer (some ⟨s, 0, none⟩), .int .i64 n, .bool false, .bool true] w (RetV w s big ch E (.int .i64 (numV true (r.take n))) (r.drop n)) := by
  have hlen : (r.take n).length = n := by rw [List.length_take]; omega
  have hbyt : Byt (r.take n) := fun x hx => h.byt x (List.mem_of_mem_take hx)
  have H := Lib.hid (rdS_ok s big ch E r n w h hn)
  have hv : numV true (r.take n) = wrap64 (Lib.beZ ((tempL true (r.take n)).take 8)) := by rw [temp_be _ (by omega)]; rfl
  rw [hv]
  have hsp := splice_be (r.take n) (by omega)
  have htl := tempL_length true (r.take n) (by omega)
  have htb := tempL_byt true hbyt
  rw [hlen] at hsp
  have hsl := fun (b : Nat) (w : World) => run_cut1 (P := Tryd.prog) u8 b 0 8 8 (8 - n) (8 - (n : Int)) (by omega) (by omega) w
  have hco : cutOff 0 8 (8 - n) = 8 - n := by unfold cutOff; rw [if_neg (by omega)]; omega
  rw [hco, show 8 - (8 - n) = n by omega] at hsl
  generalize r.take n = l at *
  generalize r.drop n = r' at *
  generalize tempL true l = tl at *
  have HSP := Lib.hid hsp
  have HLEN := Lib.hid hlen
  have HTL := Lib.hid htl
  clear h hv hco hsp hlen htl
  have i1 : (1 : Int) ≤ n := by omega
  have i8 : (n : Int) ≤ 8 := by omega
  go_enter Tryd.func68, Tryd.ntmps68
  go_wp2_with (first
    | (go_at_call 85; go_must (refine H.out.mono ?_); rintro e w1 ⟨u, rfl, hu, ho, hs, hf⟩; obtain ⟨ub, uo, uc, hu1, huc, hum, hat⟩ := hu.at' (by rw [HLEN.out]; omega); rw [HLEN.out] at hu1; subst hu1)
    | (at_make; go_must (refine wpList_make_gr Go.Proofs.YtgkccbfepjgjoaaDoor.u8 rfl _ _ rfl (Gr.refl w1) .i64 .i64 8 8 8 rfl rfl rfl rfl (by omega) _ rfl ?_); intro w2 ho2 hg2 hg2' hb2; obtain ⟨w3, hcp, hk3, hg3⟩ := copy8 w1 w2 w1.heap.size (8 - n) n n uc ub uo (List.replicate 8 0) l 3 hg2' (Nat.le_refl _) (ownAt_cur (xs := List.replicate 8 0) ho2) (hat.gr hg2) HLEN.out (by simp; omega); rw [HSP.out] at hk3; have hat3 := rdAt_of_heap hk3 htb))
  go_wp2_with (first
    | (go_at_call 86; go_must (refine (Tryd.binary_BE_Uint64_z ⟨w1.heap.size, 0, none⟩ 8 8 tl w3 (Nat.le_refl _) (by rw [HTL.out]; exact Nat.le_refl _) (fun i hi => by rw [Lib.addr_add]; exact hat3.cell i hi) (wf_byt htb)).mono ?_); rintro e w4 ⟨rfl, hg4⟩))
  go_ret2
  have hg := hg3.trans hg4
  exact ⟨rfl, hs.gr hg, hf.trans (Fx.of_gr hg)⟩
end Go.Proofs.YtgkccbfepjgjoaaDoor
