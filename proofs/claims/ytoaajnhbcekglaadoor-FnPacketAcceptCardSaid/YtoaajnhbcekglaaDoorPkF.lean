/- (*DataPacket).bytes: a head, the data's flag, and the data. -/
import Derived.Test.YtoaajnhbcekglaaDoorPkD
import Derived.Test.YtoaajnhbcekglaaDoorPkE
namespace Go.Proofs.YtoaajnhbcekglaaDoor
open Go Go.RowKit

theorem headL_length (long : Bool) (len ty fl : Int) (off : Nat) : (headL long len ty fl off).length = 8 + (off - 8) := by
  cases long <;> simp [headL, be2, be4] <;> omega

/-- The bytes of a packet of data. -/
def dataL (long : Bool) (len ty fl flag : Int) (data : List Int) : List Int := headL long len ty fl 8 ++ be2 flag ++ data
theorem dataL_length (long : Bool) (len ty fl flag : Int) (data : List Int) : (dataL long len ty fl flag data).length = 10 + data.length := by
  simp [dataL, headL_length, be2]; omega

theorem put_flag' (long : Bool) (len ty fl flag : Int) : putAt (headL long len ty fl (Int.toNat 10)) 8 (be2 flag) = headL long len ty fl 8 ++ be2 flag := by
  cases long <;> rfl
theorem put_flag (long : Bool) (len ty fl flag : Int) : putAt (headL long len ty fl 10) 8 (be2 flag) = headL long len ty fl 8 ++ be2 flag := by
  cases long <;> rfl

/-- The cells of a packet of data. -/
def dpkCells (len ty fl : Int) (q : Nat) (flag : Int) (v : Value) : Array Value := #[.int .u16 10, .int .u32 len, .int .u8 ty, .int .u8 fl, .pointer (some ⟨q, 0, none⟩), .int .u16 flag, v]

theorem isBuffer_new {w : World} {B g cap n : Nat} {xs : List Int} (h : OwnAt w g cap xs) (hB : B ≤ g) (hw : B ≤ w.heap.size) (hn : xs.length = n) :
    Lib.IsBuffer 123 5 B w.heap.size (xs.map (Value.int .u8)) (w.alloc (.cells #[.slice (some ⟨g, 0, none⟩) n cap, .int .i64 0, .int .i8 0] 123)) := by
  subst hn
  refine ⟨hw, _, 0, heap_alloc_new w _, ?_, ?_⟩
  · rw [List.length_map]; exact ((h.alloc _).own hB).1
  · have := h.lt; simp [Value.ownBlock]; omega

theorem newBuffer (p : Option Addr) (n c : Nat) (w : World) : Calls Tryd.prog 55 #[.slice p n c] w fun e w' => e = .returned (.pointer (some ⟨w.heap.size, 0, none⟩)) ∧ w' = w.alloc (.cells #[.slice p n c, .int .i64 0, .int .i8 0] 123) := by
  go_enter Tryd.func55, Tryd.ntmps55
  go_wp2
  go_ret
  exact ⟨rfl, rfl⟩

/-- Write of bytes that lie elsewhere. -/
theorem bufWrite {B b : Nat} {xs data : List Int} {w : World} {g0 o0 n cp : Nat} (hb : Lib.IsBuffer 123 5 B b (xs.map (Value.int .u8)) w) (hB : B ≤ w.heap.size) (hg : g0 ≠ b) (hn : data.length = n)
    (hc : ∀ i, i < data.length → w.cell? ⟨g0, o0 + i, none⟩ = some (.int .u8 (data.getD i 0))) (hlim : xs.length + n ≤ 140737488355328) :
    Calls Tryd.prog 56 #[.pointer (some ⟨b, 0, none⟩), .slice (some ⟨g0, o0, none⟩) n cp] w fun e w' => e = .returned (.tuple #[.int .i64 n, .nilIface]) ∧ Lib.IsBuffer 123 5 B b ((xs ++ data).map (Value.int .u8)) w' ∧ Below B w w' := by
  subst hn
  refine (Tryd.Buffer_Write_any B b _ (data.map (Value.int .u8)) ⟨g0, o0, none⟩ _ cp w hb hB (one_cells _) (by simp) hg ?_ (one_cells _) (by simpa using hlim)).mono fun e w' => ?_
  · intro j u hu
    have hj : j < data.length := by have := (List.getElem?_eq_some_iff.1 hu).1; simpa using this
    rw [Lib.addr_add, hc j hj]
    rw [List.getElem?_map, List.getElem?_eq_getElem hj] at hu
    rw [List.getD_eq_getElem?_getD, List.getElem?_eq_getElem hj]
    simpa using hu
  · rintro ⟨h1, h2, h3, _⟩
    exact ⟨h1, by rw [List.map_append]; exact h2, h3⟩

theorem bufBytes {B b : Nat} {xs : List Int} {w : World} (hx : Byt xs) (hb : Lib.IsBuffer 123 5 B b (xs.map (Value.int .u8)) w) :
    Calls Tryd.prog 57 #[.pointer (some ⟨b, 0, none⟩)] w fun e w' => ∃ v, e = .returned v ∧ Own B w' v xs ∧ Gr w w' := by
  refine (Tryd.Buffer_Bytes B b _ w hb).mono fun e w' => ?_
  rintro ⟨v, rfl, h1, n, rfl⟩
  rw [List.length_map] at h1
  exact ⟨v, rfl, ⟨h1, hx⟩, (Gr.refl w).drewN n⟩

set_option maxRecDepth 100000 in
theorem dpk_bytes_some (b q : Nat) (c : Ctx) (dt : ByteArray) (len ty fl flag : Int) (v : Value) (data : List Int) (w : World) (hlen : 0 ≤ len ∧ len < 4294967296) (hty : 0 ≤ ty ∧ ty < 256) (hfl : 0 ≤ fl ∧ fl < 256) (hflag : 0 ≤ flag ∧ flag < 65536)
    (hb : w.heap[b]? = some (.cells (dpkCells len ty fl q flag v) 80 (0, 0))) (hq : w.heap[q]? = some (.cells (c.cells dt) 93 (0, 0)))
    (hv : Rd w v data) (hl : data.length ≤ 100000000000) (hne : 0 < data.length) :
    Calls Tryd.prog 46 #[.pointer (some ⟨b, 0, none⟩)] w (RetB w (dataL (c.done && decide (315 ≤ c.ver)) len ty fl flag data)) := by
  obtain ⟨p, cp, rfl, hc1, hc2, hc3, hc4, hbyt⟩ := hv
  obtain ⟨g0, o0, rfl, hcell⟩ := hc4 hne
  have HC := Lib.hid hcell; clear hcell
  have H : PkCells w b q 10 len ty fl c.ver c.done := PkCells.of_blocks hb rfl rfl rfl rfl rfl hq
  have k5 : w.cell? ⟨b, 5, none⟩ = some (.int .u16 flag) := (blk_cell hb 5).trans rfl
  have k6 : w.cell? ⟨b, 6, none⟩ = some (.slice (some ⟨g0, o0, none⟩) data.length cp) := (blk_cell hb 6).trans rfl
  have hg0 : g0 < w.heap.size := World.block_lt_of_cell? w _ (HC.out 0 hne)
  go_enter Tryd.func46, Tryd.ntmps46
  go_wp2_with (go_at_call 41; refine (pkt_bytes b q 10 len ty fl c.ver c.done _ (by omega) hlen hty hfl H).mono ?_; rintro e w1 ⟨v1, rfl, ho1, hg1⟩; obtain ⟨g, cap, hv1, hB, ha⟩ := ho1.form (by simp [headL_length]); obtain rfl : v1 = .slice (some ⟨g, 0, none⟩) 10 cap := (by rw [hv1, headL_length]; rfl); clear ho1 hv1; have k5 := hg1.cell k5; have k6 := hg1.cell k6; have hcap : 10 ≤ cap := (by have := ha.2.1; rw [headL_length] at this; exact this); have hcap2 : cap ≤ 9223372036854775807 := (by have := ha.2.2.1; simp only [maxLen] at this; omega); have hne8 : ¬ (cap = 8) := (by omega))
  go_region_held3 (fun w' => w'.cell? ⟨b, 5, none⟩ = some (.int .u16 flag)) (first | go_keep | (exact k5))
    ((first
      | (go_at_call 53; refine (put16 _ g cap _ 8 _ _ flag hflag ha.drew (by omega) (by rw [headL_length]; exact Nat.le_refl _)).mono ?_; rintro e w2 ⟨rfl, ho2, hf2⟩; have hg2 := hf2 w hg1.drew hB; have k5 : w2.cell? ⟨b, 5, none⟩ = some (.int .u16 flag) := hg2.cell ((blk_cell hb 5).trans rfl))))
  clear k5 k6
  have k6 : w2.cell? ⟨b, 6, none⟩ = some (.slice (some ⟨g0, o0, none⟩) data.length cp) := hg2.cell ((blk_cell hb 6).trans rfl)
  have hw2 : w.heap.size ≤ w2.heap.size := hg2.size
  have hbl : b < w2.heap.size := lt_of_some (hg2.heap hb)
  rw [put_flag'] at ho2
  have hx2 : (headL (c.done && decide (315 ≤ c.ver)) len ty fl 8 ++ be2 flag).length = 10 := by simp [headL_length, be2]
  go_wp2_with (first
    | (go_at_call 55; refine (newBuffer _ _ _ _).mono ?_; rintro e w' ⟨rfl, rfl⟩)
    | (go_at_call 56; refine (bufWrite (isBuffer_new ho2 hB hw2 hx2) (hg2.alloc _).size (Nat.ne_of_lt (Nat.lt_of_lt_of_le hg0 hw2)) rfl (fun i hi => (hg2.alloc _).cell (HC.out i hi)) (by rw [hx2]; omega)).mono ?_; rintro e w3 ⟨rfl, hb3, hg3⟩)
    | (go_at_call 57; refine (bufBytes (byt_append ho2.byt hbyt) hb3).mono ?_; rintro e w4 ⟨v4, rfl, ho4, hg4⟩))
  go_ret
  exact ⟨_, rfl, ho4, Gr.trans (Below.trans (hg2.alloc _) hg3) hg4⟩

set_option maxRecDepth 100000 in
theorem dpk_bytes_none (b q : Nat) (c : Ctx) (dt : ByteArray) (len ty fl flag : Int) (p : Option Addr) (cp : Nat) (w : World) (hlen : 0 ≤ len ∧ len < 4294967296) (hty : 0 ≤ ty ∧ ty < 256) (hfl : 0 ≤ fl ∧ fl < 256) (hflag : 0 ≤ flag ∧ flag < 65536)
    (hb : w.heap[b]? = some (.cells (dpkCells len ty fl q flag (.slice p 0 cp)) 80 (0, 0))) (hq : w.heap[q]? = some (.cells (c.cells dt) 93 (0, 0))) :
    Calls Tryd.prog 46 #[.pointer (some ⟨b, 0, none⟩)] w (RetB w (dataL (c.done && decide (315 ≤ c.ver)) len ty fl flag [])) := by
  have H : PkCells w b q 10 len ty fl c.ver c.done := PkCells.of_blocks hb rfl rfl rfl rfl rfl hq
  have k5 : w.cell? ⟨b, 5, none⟩ = some (.int .u16 flag) := (blk_cell hb 5).trans rfl
  have k6 : w.cell? ⟨b, 6, none⟩ = some (.slice p 0 cp) := (blk_cell hb 6).trans rfl
  go_enter Tryd.func46, Tryd.ntmps46
  go_wp2_with (go_at_call 41; refine (pkt_bytes b q 10 len ty fl c.ver c.done _ (by omega) hlen hty hfl H).mono ?_; rintro e w1 ⟨v1, rfl, ho1, hg1⟩; obtain ⟨g, cap, hv1, hB, ha⟩ := ho1.form (by simp [headL_length]); obtain rfl : v1 = .slice (some ⟨g, 0, none⟩) 10 cap := (by rw [hv1, headL_length]; rfl); clear ho1 hv1; have k5 := hg1.cell k5; have k6 := hg1.cell k6; have hcap : 10 ≤ cap := (by have := ha.2.1; rw [headL_length] at this; exact this); have hcap2 : cap ≤ 9223372036854775807 := (by have := ha.2.2.1; simp only [maxLen] at this; omega); have hne8 : ¬ (cap = 8) := (by omega))
  go_region_held3 (fun w' => w'.cell? ⟨b, 5, none⟩ = some (.int .u16 flag)) (first | go_keep | (exact k5))
    ((first
      | (go_at_call 53; refine (put16 _ g cap _ 8 _ _ flag hflag ha.drew (by omega) (by rw [headL_length]; exact Nat.le_refl _)).mono ?_; rintro e w2 ⟨rfl, ho2, hf2⟩; have hg2 := hf2 w hg1.drew hB; have k5 : w2.cell? ⟨b, 5, none⟩ = some (.int .u16 flag) := hg2.cell ((blk_cell hb 5).trans rfl))))
  clear k5 k6
  have k6 : w2.cell? ⟨b, 6, none⟩ = some (.slice p 0 cp) := hg2.cell ((blk_cell hb 6).trans rfl)
  have hw2 : w.heap.size ≤ w2.heap.size := hg2.size
  have hbl : b < w2.heap.size := lt_of_some (hg2.heap hb)
  rw [put_flag'] at ho2
  have hx2 : (headL (c.done && decide (315 ≤ c.ver)) len ty fl 8 ++ be2 flag).length = 10 := by simp [headL_length, be2]
  go_wp2_with (first
    | (go_at_call 55; refine (newBuffer _ _ _ _).mono ?_; rintro e w' ⟨rfl, rfl⟩)
    | (go_at_call 57; refine (bufBytes ho2.byt (isBuffer_new ho2 hB hw2 hx2)).mono ?_; rintro e w4 ⟨v4, rfl, ho4, hg4⟩))
  go_ret
  exact ⟨_, rfl, by rw [dataL, List.append_nil]; exact ho4, Gr.trans (hg2.alloc _) hg4⟩

/-- (*DataPacket).bytes. -/
theorem dpk_bytes (b q : Nat) (c : Ctx) (dt : ByteArray) (len ty fl flag : Int) (v : Value) (data : List Int) (w : World) (hlen : 0 ≤ len ∧ len < 4294967296) (hty : 0 ≤ ty ∧ ty < 256) (hfl : 0 ≤ fl ∧ fl < 256) (hflag : 0 ≤ flag ∧ flag < 65536)
    (hb : w.heap[b]? = some (.cells (dpkCells len ty fl q flag v) 80 (0, 0))) (hq : w.heap[q]? = some (.cells (c.cells dt) 93 (0, 0)))
    (hv : Rd w v data) (hl : data.length ≤ 100000000000) :
    Calls Tryd.prog 46 #[.pointer (some ⟨b, 0, none⟩)] w (RetB w (dataL (c.done && decide (315 ≤ c.ver)) len ty fl flag data)) := by
  rcases Nat.eq_zero_or_pos data.length with h0 | h0
  · obtain ⟨p, cp, rfl, _⟩ := hv
    obtain rfl : data = [] := List.eq_nil_of_length_eq_zero h0
    exact dpk_bytes_none b q c dt len ty fl flag p cp w hlen hty hfl hflag hb hq
  · exact dpk_bytes_some b q c dt len ty fl flag v data w hlen hty hfl hflag hb hq hv hl h0
end Go.Proofs.YtoaajnhbcekglaaDoor
