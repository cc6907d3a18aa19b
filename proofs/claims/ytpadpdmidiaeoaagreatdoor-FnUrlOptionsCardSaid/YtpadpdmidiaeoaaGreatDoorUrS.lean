/- Texts in the addresses' laws: bytes of strings, numbers' texts, hosts and ports. -/
import Derived.Test.YtpadpdmidiaeoaaGreatDoorStrB
import Derived.LoopTactic
import Derived.Test.YtpadpdmidiaeoaaGreatDoorShelf
import Derived.Lib.ItoaNum
import Derived.Lib.ItoaLen
import Derived.Lib.ItoaMem
import Derived.Lib.AppendIntMem
import Derived.Laws.Externs
import Derived.Deep.RegionHeld3
namespace Go.Proofs.YtpadpdmidiaeoaaGreatDoor
open Go Go.RowKit

def bs (xs : List UInt8) : ByteArray := ⟨xs.toArray⟩
theorem bs_size (xs : List UInt8) : (bs xs).size = xs.length := by simp [bs, ByteArray.size]
theorem bs_of (s : ByteArray) : bs s.data.toList = s := by cases s; simp [bs]
theorem nums_length (L : List UInt8) : (nums L).length = L.length := by simp [nums]

/-- A row of bytes that may be written: block b from place 0 on. -/
structure RwAt (w : World) (b : Nat) (xs : List Int) : Prop where
  rd : RdAt w b 0 xs
  free : ∀ i, i < xs.length → w.frozen? ⟨b, i, none⟩ = false
theorem RwAt.cell {w : World} {b : Nat} {xs : List Int} (h : RwAt w b xs) (i : Nat) (hi : i < xs.length) : w.cell? ⟨b, i, none⟩ = some (.int .u8 (xs.getD i 0)) := by
  have := h.rd.cell i hi; rwa [Nat.zero_add] at this
theorem RwAt.set {w : World} {b : Nat} {xs : List Int} (h : RwAt w b xs) (i : Nat) (hi : i < xs.length) (z : Int) (hz : 0 ≤ z ∧ z < 256) : RwAt (w.setCell ⟨b, i, none⟩ (.int .u8 z)) b (xs.set i z) := by
  refine ⟨⟨fun j hj => ?_, ?_⟩, fun j hj => ?_⟩
  · rw [Nat.zero_add]
    rw [List.length_set] at hj
    by_cases e : j = i
    · subst e
      rw [World.cell?_setCell_same _ _ _ (h.cell j hj)]
      simp [List.getD_eq_getElem?_getD, hj]
    · rw [World.cell?_setCell_other _ _ _ _ (by intro e2; injection e2 with _ e3; exact e e3.symm), h.cell j hj]
      simp only [List.getD_eq_getElem?_getD]
      rw [List.getElem?_set_ne (by omega)]
  · intro x hx
    rcases List.mem_or_eq_of_mem_set hx with hx | hx
    · exact h.rd.byt x hx
    · subst hx; exact hz
  · rw [List.length_set] at hj
    rw [World.frozen?_setCell]; exact h.free j hj
/-- []byte(s): a row that may be written. -/
theorem bytes_of_str_rw (L : List UInt8) (w : World) (hl : L.length ≤ maxLen) :
    ∃ c W2, (convert 9 33 (.string (bs L))).run Tryz.prog w = .ok (.slice (some ⟨w.heap.size, 0, none⟩) L.length c) W2 ∧ RwAt W2 w.heap.size (nums L) ∧ Gr w W2 ∧ L.length ≤ c ∧ c ≤ maxLen := by
  have h := run_bytes_of_string (P := Tryz.prog) w 9 33 5 ⟨L.toArray⟩ Tryz.underlying9 Tryz.underlying33 Tryz.underlying5
  obtain ⟨c, W2, h1, h2, h3, h4, h5⟩ := bytes_of_str L w hl
  have e := h.symm.trans h1
  injection e with e1 e2
  refine ⟨c, W2, h1, ⟨h2, fun i hi => ?_⟩, h3, h4, h5⟩
  rw [← e2]
  have hs : (⟨L.toArray⟩ : ByteArray).size = L.length := by simp [ByteArray.size]
  have hb : L.length ≤ (bytesRow ⟨L.toArray⟩ (grownCap w (⟨L.toArray⟩ : ByteArray).size 0 5)).size := by
    unfold bytesRow; simp
  rw [nums_length] at hi
  have := World.frozen?_alloc_mark w.drew (bytesRow ⟨L.toArray⟩ (grownCap w (⟨L.toArray⟩ : ByteArray).size 0 5)) 5 (bytesRow ⟨L.toArray⟩ (grownCap w (⟨L.toArray⟩ : ByteArray).size 0 5)).size ((bytesRow ⟨L.toArray⟩ (grownCap w (⟨L.toArray⟩ : ByteArray).size 0 5)).size + 1) i
  refine this.trans ?_
  rw [decide_eq_false (by omega)]; rfl
/-- string(b). -/
theorem str_of_bytes (b c : Nat) (L : List UInt8) (w : World) (h : RwAt w b (nums L)) :
    (convert 33 9 (.slice (some ⟨b, 0, none⟩) L.length c)).run Tryz.prog w = .ok (.string (bs L)) w :=
  run_convert_bytes_back w 33 9 5 ⟨b, 0, none⟩ c L Tryz.underlying33 Tryz.underlying5 Tryz.underlying9 fun j hj => by
    rw [Lib.addr_add, Nat.zero_add, h.cell j (by rw [nums_length]; exact hj)]
    simp [nums, List.getD_eq_getElem?_getD, hj]


def Tab10 (w : World) : Prop := Lib.TabIs Tryz.prog w "internal/strconv.uint64pow10" .u64 Lib.pow10Tab
theorem Tab10.gr {w w' : World} (h : Tab10 w) (g : Gr w w') : Tab10 w' := Lib.tabBelow_of_tabIs h w' g
theorem itoa (n : Int) (h0 : -9223372036854775808 ≤ n) (h1 : n ≤ 9223372036854775807) (w : World) (h : Tab10 w) :
    Calls Tryz.prog 26 #[.int .i64 n] w fun e w' => e = .returned (.string (bs (Lib.itoa n))) ∧ Gr w w' := by
  refine (Tryz.strconv_Itoa n h0 h1 w h).mono fun e w' => ?_
  rintro ⟨rfl, k, os, rfl⟩
  exact ⟨rfl, Lib.below_grow _ w (Nat.le_refl _) k os⟩

theorem indexStr (s : ByteArray) (w : World) : (callFunc 56 #[.string s, .int .u8 58]).run Tryz.prog w = .ok (.value (.int .i64 (firstIdx s 58))) w := by
  rw [run_callFunc_extern Tryz.func56 (by kernel_rfl) (by kernel_rfl) (by kernel_rfl) (e := Extern.BytealgIndexByte.indexByte) (by kernel_rfl), run_indexByte_string]
  rfl
/-- A host and a port. -/
def joinS (host port : ByteArray) : ByteArray := if 0 ≤ firstIdx host 58 then ((⟨#[91]⟩ ++ host) ++ ⟨#[93, 58]⟩) ++ port else (host ++ ⟨#[58]⟩) ++ port

set_option maxRecDepth 100000 in
theorem joinHost (host port : ByteArray) (w : World) (h1 : host.size ≤ 4000000000) (h2 : port.size ≤ 1000) :
    Calls Tryz.prog 41 #[.string host, .string port] w fun e w' => e = .returned (.string (joinS host port)) ∧ w' = w := by
  have hi := indexStr host
  have z1 : (⟨#[91]⟩ : ByteArray).size + host.size ≤ 9223372036854775807 := by show 1 + host.size ≤ _; omega
  have z2 : ((⟨#[91]⟩ : ByteArray) ++ host).size + (⟨#[93, 58]⟩ : ByteArray).size ≤ 9223372036854775807 := by rw [ByteArray.size_append]; show 1 + host.size + 2 ≤ _; omega
  have z3 : (((⟨#[91]⟩ : ByteArray) ++ host) ++ ⟨#[93, 58]⟩).size + port.size ≤ 9223372036854775807 := by rw [ByteArray.size_append, ByteArray.size_append]; show 1 + host.size + 2 + port.size ≤ _; omega
  have z4 : host.size + (⟨#[58]⟩ : ByteArray).size ≤ 9223372036854775807 := by show host.size + 1 ≤ _; omega
  have z5 : (host ++ (⟨#[58]⟩ : ByteArray)).size + port.size ≤ 9223372036854775807 := by rw [ByteArray.size_append]; show host.size + 1 + port.size ≤ _; omega
  unfold joinS
  generalize firstIdx host 58 = i at *
  by_cases h : 0 ≤ i
  · rw [if_pos h]
    go_enter Tryz.func41, Tryz.ntmps41
    go_wp2
    go_ret
    exact ⟨rfl, rfl⟩
  · rw [if_neg h]
    go_enter Tryz.func41, Tryz.ntmps41
    go_wp2
    go_ret
    exact ⟨rfl, rfl⟩

theorem itoa_len (n : Int) (h0 : -9223372036854775808 ≤ n) (h1 : n ≤ 9223372036854775807) : (Lib.itoa n).length ≤ 21 := by
  by_cases h : n < 0
  · obtain ⟨u, rfl⟩ : ∃ u : Nat, n = -(u : Int) := ⟨n.natAbs, by omega⟩
    rw [Lib.itoa_neg u (by omega), List.length_cons, Lib.decDigits_length]
    have := Lib.nDigits_le20 u (by omega); omega
  · obtain ⟨u, rfl⟩ := Int.eq_ofNat_of_zero_le (show 0 ≤ n by omega)
    rw [Lib.itoa_nonneg, Lib.decDigits_length]
    have := Lib.nDigits_le20 u (by omega); omega


theorem arr_eq (A B : List UInt8) : ((⟨A.toArray⟩ : ByteArray).toList == (⟨B.toArray⟩ : ByteArray).toList) = decide (A = B) := by
  have e : ∀ L : List UInt8, (⟨L.toArray⟩ : ByteArray).toList = L := fun L => by simp
  rw [e, e]
  by_cases h : A = B
  · subst h; simp
  · rw [decide_eq_false h, beq_eq_false_iff_ne]; exact h
theorem bs_append (A B : List UInt8) : bs A ++ bs B = bs (A ++ B) := by
  apply ByteArray.ext
  simp [bs]
theorem bs_extract (L : List UInt8) (i j : Nat) : (bs L).extract i j = bs ((L.take j).drop i) := by
  apply ByteArray.ext
  simp [bs, List.extract_eq_take_drop, List.drop_take]
theorem itoa_no (n : Int) : ∀ c ∈ Lib.itoa n, c ≠ 58 := by
  have hd : ∀ u : Nat, ∀ c ∈ Lib.decDigits u, c ≠ 58 := by
    intro u
    induction u using Nat.strongRecOn with
    | ind u ih =>
      intro c hc
      rw [Lib.decDigits] at hc
      split at hc
      · rename_i h
        simp only [List.mem_singleton] at hc
        subst hc
        rcases (by omega : u = 0 ∨ u = 1 ∨ u = 2 ∨ u = 3 ∨ u = 4 ∨ u = 5 ∨ u = 6 ∨ u = 7 ∨ u = 8 ∨ u = 9) with rfl | rfl | rfl | rfl | rfl | rfl | rfl | rfl | rfl | rfl <;> decide
      · rename_i h
        rcases List.mem_append.1 hc with hc | hc
        · exact ih (u / 10) (by omega) c hc
        · simp only [List.mem_singleton] at hc
          subst hc
          generalize hr : u % 10 = r
          have : r < 10 := by omega
          rcases (by omega : r = 0 ∨ r = 1 ∨ r = 2 ∨ r = 3 ∨ r = 4 ∨ r = 5 ∨ r = 6 ∨ r = 7 ∨ r = 8 ∨ r = 9) with rfl | rfl | rfl | rfl | rfl | rfl | rfl | rfl | rfl | rfl <;> decide
  intro c hc
  unfold Lib.itoa at hc
  split at hc
  · rcases List.mem_cons.1 hc with rfl | hc
    · decide
    · exact hd _ c hc
  · exact hd _ c hc
/-- The address with its brackets. -/
def hostL (A : List UInt8) : List UInt8 := if 0 ≤ firstIdx (bs A) 58 then 91 :: (A ++ [93]) else A
theorem joinS_bs (A D : List UInt8) : joinS (bs A) (bs D) = bs (hostL A ++ 58 :: D) := by
  unfold joinS hostL
  split
  · have e1 : (⟨#[91]⟩ : ByteArray) = bs [91] := rfl
    have e2 : (⟨#[93, 58]⟩ : ByteArray) = bs [93, 58] := rfl
    rw [e1, e2, bs_append, bs_append, bs_append]
    simp
  · have e1 : (⟨#[58]⟩ : ByteArray) = bs [58] := rfl
    rw [e1, bs_append, bs_append]
    simp
theorem hostL_len (A : List UInt8) : hostL A = A ∨ (hostL A = 91 :: (A ++ [93])) := by
  unfold hostL
  split
  · exact .inr rfl
  · exact .inl rfl
theorem bs_eq (A B : List UInt8) : ((bs A).toList == (bs B).toList) = decide (A = B) := arr_eq A B
theorem bs_get (T : List UInt8) (k : Nat) (h : k < (bs T).size) (h' : k < T.length) : (bs T)[k]'h = T[k]'h' := by
  show (bs T).data[k]'h = T[k]
  simp [bs]

theorem bs_extract' (T : List UInt8) (i j : Nat) (R : List UInt8) (h : (T.take j).drop i = R) : (bs T).extract i j = bs R := by
  rw [bs_extract, h]
/-- The texts in a row of block b. -/
def StrAt (w : World) (b : Nat) (Xs : List ByteArray) : Prop := ∀ j, j < Xs.length → w.cell? ⟨b, j, none⟩ = some (.string (Xs.getD j ⟨#[]⟩))

set_option maxRecDepth 100000 in
theorem shortC (b n c : Nat) (Xs : List ByteArray) (w : World) (hn : Xs.length = n) (hc : n ≤ c) (hm : c ≤ 9223372036854775807) (hx : StrAt w b Xs) :
    Calls Tryz.prog 8 #[.slice (some ⟨b, 0, none⟩) n c] w fun e w' => e = .returned (.bool (Xs.all fun x => decide (x.size ≤ 300))) ∧ w' = w := by
  have HX := Lib.hid hx
  have HN := Lib.hid hn
  clear hx hn
  go_enter Tryz.func8, Tryz.ntmps8
  go_wp2
  go_loopw [7] (fun i wr => ∃ k : Nat, i = .int .i64 k ∧ k ≤ n ∧ ((Xs.take k).all fun x => decide (x.size ≤ 300)) = true ∧ wr = w) (fun i _ => ((n : Int) - intOf i).toNat)
  case atStart => exact ⟨0, rfl, Nat.zero_le _, by simp, rfl⟩
  case round =>
    obtain ⟨k, rfl, hk, hall, rfl⟩ := hrel
    by_cases hkn : k < n
    · have hkX : k < Xs.length := by rw [HN.out]; exact hkn
      have kc := HX.out k hkX
      have hg : Xs.getD k ⟨#[]⟩ = Xs[k] := by simp [List.getD_eq_getElem?_getD, hkX]
      rw [hg] at kc
      have ht : ((Xs.take (k + 1)).all fun x => decide (x.size ≤ 300)) = (((Xs.take k).all fun x => decide (x.size ≤ 300)) && decide (Xs[k].size ≤ 300)) := by
        rw [List.take_succ_eq_append_getElem hkX, List.all_append]
        simp
      have hd : Xs.all (fun x => decide (x.size ≤ 300)) = true → Xs[k].size ≤ 300 := fun h => by simpa using List.all_eq_true.1 h Xs[k] (List.getElem_mem hkX)
      have HT := Lib.hid ht
      have HA := Lib.hid hall
      have HD := Lib.hid hd
      generalize Xs[k] = x at *
      clear ht hall hd
      by_cases hs : (300 : Int) < (x.size : Int)
      · go_wp2
        have e : Xs.all (fun x => decide (x.size ≤ 300)) = false := by
          cases h : Xs.all (fun x => decide (x.size ≤ 300)) with
          | false => rfl
          | true => have := HD.out h; omega
        go_ret
        exact ⟨by rw [e]; rfl, rfl⟩
      · go_wp2
        go_roundw
        case rel => exact ⟨k + 1, by go_num, by omega, by rw [HT.out, HA.out]; simp; omega, by trivial⟩
        case measure => first | (simp [intOf]; done) | (simp [intOf]; omega)
    · obtain rfl : n = k := by omega
      have e : Xs.all (fun x => decide (x.size ≤ 300)) = true := by rw [← hall, ← HN.out, List.take_length]
      clear hall
      go_wp2
      go_ret
      exact ⟨by rw [e]; rfl, rfl⟩
end Go.Proofs.YtpadpdmidiaeoaaGreatDoor
