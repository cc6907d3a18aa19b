/- Texts of the configuration's laws: small letters. -/
import Derived.Test.YtkonfcgdokabaaaDoorStrB
import Derived.LoopTactic
namespace Go.Proofs.YtkonfcgdokabaaaDoor
open Go Go.RowKit

def bs (xs : List UInt8) : ByteArray := ⟨xs.toArray⟩
theorem bs_size (xs : List UInt8) : (bs xs).size = xs.length := by simp [bs, ByteArray.size]
theorem bs_of (s : ByteArray) : bs s.data.toList = s := by cases s; simp [bs]
theorem nums_length (L : List UInt8) : (nums L).length = L.length := by simp [nums]

/-- A row of bytes that may be written: block b from place 0 on. -/
structure RwAt (w : World) (b : Nat) (xs : List Int) : Prop where
  rd : RdAt w b 0 xs
  free : ∀ i, i < xs.length → w.frozen? ⟨b, i, none⟩ = false
theorem RwAt.cell {w : World} {b : Nat} {xs : List Int} (h : RwAt w b xs) (i : Nat) (hi : i < xs.length) : w.cell? ⟨b, i, none⟩ = some (.int .u8 (xs.getD i 0)) := by
  have := h.rd.cell i hi; rwa [Nat.zero_add] at this
theorem RwAt.set {w : World} {b : Nat} {xs : List Int} (h : RwAt w b xs) (i : Nat) (hi : i < xs.length) (z : Int) (hz : 0 ≤ z ∧ z < 256) : RwAt (w.setCell ⟨b, i, none⟩ (.int .u8 z)) b (xs.set i z) := by
  refine ⟨⟨fun j hj => ?_, ?_⟩, fun j hj => ?_⟩
  · rw [Nat.zero_add]
    rw [List.length_set] at hj
    by_cases e : j = i
    · subst e
      rw [World.cell?_setCell_same _ _ _ (h.cell j hj)]
      simp [List.getD_eq_getElem?_getD, hj]
    · rw [World.cell?_setCell_other _ _ _ _ (by intro e2; injection e2 with _ e3; exact e e3.symm), h.cell j hj]
      simp only [List.getD_eq_getElem?_getD]
      rw [List.getElem?_set_ne (by omega)]
  · intro x hx
    rcases List.mem_or_eq_of_mem_set hx with hx | hx
    · exact h.rd.byt x hx
    · subst hx; exact hz
  · rw [List.length_set] at hj
    rw [World.frozen?_setCell]; exact h.free j hj
/-- []byte(s): a row that may be written. -/
theorem bytes_of_str_rw (L : List UInt8) (w : World) (hl : L.length ≤ maxLen) :
    ∃ c W2, (convert 9 44 (.string (bs L))).run Tryd.prog w = .ok (.slice (some ⟨w.heap.size, 0, none⟩) L.length c) W2 ∧ RwAt W2 w.heap.size (nums L) ∧ Gr w W2 ∧ L.length ≤ c ∧ c ≤ maxLen := by
  have h := run_bytes_of_string (P := Tryd.prog) w 9 44 5 ⟨L.toArray⟩ Tryd.underlying9 Tryd.underlying44 Tryd.underlying5
  obtain ⟨c, W2, h1, h2, h3, h4, h5⟩ := bytes_of_str L w hl
  have e := h.symm.trans h1
  injection e with e1 e2
  refine ⟨c, W2, h1, ⟨h2, fun i hi => ?_⟩, h3, h4, h5⟩
  rw [← e2]
  have hs : (⟨L.toArray⟩ : ByteArray).size = L.length := by simp [ByteArray.size]
  have hb : L.length ≤ (bytesRow ⟨L.toArray⟩ (grownCap w (⟨L.toArray⟩ : ByteArray).size 0 5)).size := by
    unfold bytesRow; simp
  rw [nums_length] at hi
  have := World.frozen?_alloc_mark w.drew (bytesRow ⟨L.toArray⟩ (grownCap w (⟨L.toArray⟩ : ByteArray).size 0 5)) 5 (bytesRow ⟨L.toArray⟩ (grownCap w (⟨L.toArray⟩ : ByteArray).size 0 5)).size ((bytesRow ⟨L.toArray⟩ (grownCap w (⟨L.toArray⟩ : ByteArray).size 0 5)).size + 1) i
  refine this.trans ?_
  rw [decide_eq_false (by omega)]; rfl
/-- string(b). -/
theorem str_of_bytes (b c : Nat) (L : List UInt8) (w : World) (h : RwAt w b (nums L)) :
    (convert 44 9 (.slice (some ⟨b, 0, none⟩) L.length c)).run Tryd.prog w = .ok (.string (bs L)) w :=
  run_convert_bytes_back w 44 9 5 ⟨b, 0, none⟩ c L Tryd.underlying44 Tryd.underlying5 Tryd.underlying9 fun j hj => by
    rw [Lib.addr_add, Nat.zero_add, h.cell j (by rw [nums_length]; exact hj)]
    simp [nums, List.getD_eq_getElem?_getD, hj]

/-- A letter made small. -/
def lowB (b : UInt8) : UInt8 := if 65 ≤ b.toNat ∧ b.toNat ≤ 90 then b + 32 else b
/-- The first k letters made small. -/
def lowK (L : List UInt8) (k : Nat) : List UInt8 := (L.take k).map lowB ++ L.drop k
theorem lowK_length (L : List UInt8) (k : Nat) : (lowK L k).length = L.length := by simp [lowK]; omega
theorem lowK_zero (L : List UInt8) : lowK L 0 = L := by simp [lowK]
theorem lowK_all (L : List UInt8) (k : Nat) (h : k = L.length) : lowK L k = L.map lowB := by subst h; simp [lowK]
theorem lowK_get (L : List UInt8) (k : Nat) (h : k < L.length) : (nums (lowK L k)).getD k 0 = (L[k].toNat : Int) := by
  simp only [nums, lowK, List.getD_eq_getElem?_getD, List.getElem?_map]
  rw [List.getElem?_append_right (by simp; omega)]
  simp [Nat.min_eq_left (Nat.le_of_lt h), h]
theorem lowK_step (L : List UInt8) (k : Nat) (h : k < L.length) : nums (lowK L (k + 1)) = (nums (lowK L k)).set k ((lowB L[k]).toNat : Int) := by
  simp only [nums, lowK]
  rw [List.take_succ_eq_append_getElem h, List.drop_eq_getElem_cons h]
  simp only [List.map_append, List.map_cons, List.map_nil, List.append_assoc, List.singleton_append]
  rw [List.set_append_right _ _ (by simp; omega)]
  simp [Nat.min_eq_left (Nat.le_of_lt h)]

set_option maxRecDepth 100000 in
theorem lower (L : List UInt8) (hl : L.length ≤ 4000000000) (w : World) :
    Calls Tryd.prog 30 #[.string (bs L)] w fun e w' => e = .returned (.string (bs (L.map lowB))) ∧ Gr w w' := by
  obtain ⟨c, W2, hcv, hrw, hg, hc1, hc2⟩ := bytes_of_str_rw L w (by simp only [maxLen]; omega)
  obtain ⟨n, hn⟩ : ∃ n, L.length = n := ⟨_, rfl⟩
  obtain ⟨b, hb⟩ : ∃ b, w.heap.size = b := ⟨_, rfl⟩
  have hback := fun M (hM : M.length = n) w h => Lib.hid (hM ▸ str_of_bytes b c M w h : (convert 44 9 (.slice (some ⟨b, 0, none⟩) n c)).run Tryd.prog w = .ok (.string (bs M)) w)
  rw [hn] at hcv hc1 hl
  rw [hb] at hcv hrw
  have hcm : c ≤ 9223372036854775807 := by simp only [maxLen] at hc2; omega
  have HB := Lib.hid hb
  have HN := Lib.hid hn
  have HG := Lib.hid hg
  have HRW := Lib.hid hrw
  clear hrw hg hb hn hc2
  generalize hS : bs L = S at *
  clear hS
  go_enter Tryd.func30, Tryd.ntmps30
  go_wp2
  go_loopw [10] (fun i wr => ∃ k : Nat, i = .int .i64 k ∧ k ≤ n ∧ RwAt wr b (nums (lowK L k)) ∧ Gr w wr) (fun i _ => ((n : Int) - intOf i).toNat)
  case atStart => exact ⟨0, rfl, Nat.zero_le _, by rw [lowK_zero]; exact HRW.out, HG.out⟩
  case round =>
    obtain ⟨k, rfl, hk, hrw, hgr⟩ := hrel
    by_cases hkn : k < n
    · have hkL : k < L.length := by rw [HN.out]; exact hkn
      have hnl : (nums (lowK L k)).length = n := by rw [nums_length, lowK_length, HN.out]
      have kc := hrw.cell k (by rw [hnl]; exact hkn)
      rw [lowK_get L k hkL] at kc
      have hf := hrw.free k (by rw [hnl]; exact hkn)
      have hst := lowK_step L k hkL
      have hx := L[k].toNat_lt
      have HR := Lib.hid hrw
      have HGR := Lib.hid hgr
      by_cases hup : 65 ≤ L[k].toNat ∧ L[k].toNat ≤ 90
      · have hlow : ((lowB L[k]).toNat : Int) = (L[k].toNat : Int) + 32 := by
          unfold lowB; rw [if_pos hup, UInt8.toNat_add]
          simp; omega
        rw [hlow] at hst
        generalize L[k].toNat = x at *
        have h1 : (65 : Int) ≤ (x : Int) := by omega
        have h2 : (x : Int) ≤ 90 := by omega
        have HST := Lib.hid hst
        have HNL := Lib.hid hnl
        clear hst hlow hup hrw hgr hnl
        go_wp2
        go_roundw
        case rel => exact ⟨k + 1, by go_num, by omega, by rw [HST.out]; exact HR.out.set k (by rw [HNL.out]; exact hkn) _ (by omega), HGR.out.setCell (by rw [HB.out]; exact Nat.le_refl _) _⟩
        case measure => first | (simp [intOf]; done) | (simp [intOf]; omega)
      · have hlow : ((lowB L[k]).toNat : Int) = (L[k].toNat : Int) := by unfold lowB; rw [if_neg hup]
        rw [hlow] at hst
        have hsame : nums (lowK L (k + 1)) = nums (lowK L k) := by
          rw [hst]
          have e := lowK_get L k hkL
          rw [← e, List.getD_eq_getElem?_getD, List.getElem?_eq_getElem (by rw [hnl]; exact hkn)]
          simp
        have HSM := Lib.hid hsame
        generalize L[k].toNat = x at *
        by_cases h1 : (65 : Int) ≤ (x : Int)
        · have h2 : ¬ (x : Int) ≤ 90 := by omega
          clear hst hlow hup hrw hgr hnl hsame
          go_wp2
          go_roundw
          case rel => exact ⟨k + 1, by go_num, by omega, by rw [HSM.out]; exact HR.out, HGR.out⟩
          case measure => first | (simp [intOf]; done) | (simp [intOf]; omega)
        · clear hst hlow hup hrw hgr hnl hsame
          go_wp2
          go_roundw
          case rel => exact ⟨k + 1, by go_num, by omega, by rw [HSM.out]; exact HR.out, HGR.out⟩
          case measure => first | (simp [intOf]; done) | (simp [intOf]; omega)
    · obtain rfl : n = k := by omega
      rw [lowK_all L n HN.out.symm] at hrw
      have hbk := (hback (L.map lowB) (by rw [List.length_map, HN.out]) _ hrw).out
      go_wp2
      go_ret
      exact ⟨rfl, hgr⟩
end Go.Proofs.YtkonfcgdokabaaaDoor
