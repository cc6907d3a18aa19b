/- FnPrivilegeCase. -/
import Derived.Test.YtkonfcgdokabaaaDoorCfC
namespace Go.Proofs.YtkonfcgdokabaaaDoor
open Go Go.RowKit

theorem upperB_set (x : UInt8) (h : 65 ≤ x.toNat ∧ x.toNat ≤ 90) : Lib.upperB (x + 32) = x ∧ (x + 32).toNat = x.toNat + 32 := by
  have : ∀ x : Fin 256, 65 ≤ (UInt8.ofNat x).toNat ∧ (UInt8.ofNat x).toNat ≤ 90 → Lib.upperB (UInt8.ofNat x + 32) = UInt8.ofNat x ∧ (UInt8.ofNat x + 32).toNat = (UInt8.ofNat x).toNat + 32 := by decide +kernel
  have := this ⟨x.toNat, x.toNat_lt⟩
  simp only [UInt8.ofNat_toNat] at this
  exact this h
theorem upperB_low (x : UInt8) (h : 65 ≤ (Lib.upperB x).toNat ∧ (Lib.upperB x).toNat ≤ 90) : x.toNat < 128 := by
  have : ∀ x : Fin 256, 65 ≤ (Lib.upperB (UInt8.ofNat x)).toNat ∧ (Lib.upperB (UInt8.ofNat x)).toNat ≤ 90 → (UInt8.ofNat x).toNat < 128 := by decide +kernel
  have := this ⟨x.toNat, x.toNat_lt⟩
  simp only [UInt8.ofNat_toNat] at this
  exact this h
/-- A text whose letters from j on are those of N. -/
structure Half (N L : List UInt8) (j : Nat) : Prop where
  len : L.length = N.length
  up : Lib.toUpperA L = N
  rest : L.drop j = N.drop j
theorem RwAt.gr {w w' : World} {b : Nat} {xs : List Int} (h : RwAt w b xs) (g : Gr w w') : RwAt w' b xs := by
  refine ⟨h.rd.gr g, fun i hi => ?_⟩
  have hc := World.block_lt_of_cell? w _ (h.cell i hi)
  have hb := g.block hc
  have := h.free i hi
  simp only [World.frozen?] at *
  rw [hb]; exact this
theorem Half.get {N L : List UInt8} {j : Nat} (h : Half N L j) (hj : j < N.length) : (nums L).getD j 0 = (N[j].toNat : Int) := by
  have e : L[j]? = N[j]? := by
    have := congrArg (fun l => l[0]?) h.rest
    simpa [List.getElem?_drop] using this
  rw [List.getD_eq_getElem?_getD]
  simp only [nums, List.getElem?_map]
  rw [e, List.getElem?_eq_getElem hj]
  rfl
theorem Half.skip {N L : List UInt8} {j : Nat} (h : Half N L j) : Half N L (j + 1) := by
  refine ⟨h.len, h.up, ?_⟩
  have := congrArg (List.drop 1) h.rest
  simpa [List.drop_drop, Nat.add_comm] using this
theorem Half.set {N L : List UInt8} {j : Nat} (h : Half N L j) (hj : j < N.length) (hN : 65 ≤ N[j].toNat ∧ N[j].toNat ≤ 90) :
    Half N (L.set j (N[j] + 32)) (j + 1) ∧ nums (L.set j (N[j] + 32)) = (nums L).set j ((N[j].toNat : Int) + 32) := by
  obtain ⟨u1, u2⟩ := upperB_set N[j] hN
  refine ⟨⟨by rw [List.length_set]; exact h.len, ?_, ?_⟩, ?_⟩
  · have := h.up
    unfold Lib.toUpperA at *
    rw [List.map_set, this, u1]
    simp
  · rw [List.drop_set_of_lt (by omega)]
    exact h.skip.rest
  · simp only [nums, List.map_set, u2]
    rw [Int.natCast_add]; rfl
theorem up_same (N : List UInt8) (hN : ∀ b ∈ N, 65 ≤ b.toNat ∧ b.toNat ≤ 90) : Lib.toUpperA N = N := by
  induction N with
  | nil => rfl
  | cons a t ih =>
    have ha := hN a (by simp)
    have e : Lib.upperB a = a := by
      unfold Lib.upperB Lib.isLowerB
      rw [if_neg]
      intro h
      simp only [Bool.and_eq_true, decide_eq_true_eq, UInt8.le_iff_toNat_le] at h
      have : (97 : UInt8).toNat = 97 := rfl
      omega
    have := ih fun b hb => hN b (List.mem_cons_of_mem _ hb)
    unfold Lib.toUpperA at *
    rw [List.map_cons, this, e]
/-- A string made of one byte. -/
theorem one_str (v : UInt8) (w : World) : (convert 44 9 (.slice (some ⟨w.heap.size, 0, none⟩) 1 1)).run Tryd.prog (w.alloc (.cells #[.int .u8 v.toNat] 5)) = .ok (.string (bs [v])) (w.alloc (.cells #[.int .u8 v.toNat] 5)) :=
  run_convert_bytes_back _ 44 9 5 ⟨w.heap.size, 0, none⟩ 1 [v] Tryd.underlying44 Tryd.underlying5 Tryd.underlying9 fun j hj => by
    obtain rfl : j = 0 := by simpa using hj
    exact blk_cell (heap_new_at w _ rfl) 0
theorem Half.ascii {N L : List UInt8} {j : Nat} (h : Half N L j) (hN : ∀ b ∈ N, 65 ≤ b.toNat ∧ b.toNat ≤ 90) : ∀ b ∈ L, b.toNat < 128 := by
  intro b hb
  refine upperB_low b (hN _ ?_)
  rw [← h.up]
  exact List.mem_map_of_mem hb
theorem privName_up (k : Nat) (hk : k < 7) : ∀ b ∈ privName k, 65 ≤ b.toNat ∧ b.toNat ≤ 90 :=
  seven (p := fun k => ∀ b ∈ privName k, 65 ≤ b.toNat ∧ b.toNat ≤ 90) (by decide) (by decide) (by decide) (by decide) (by decide) (by decide) (by decide) k hk
theorem privName_len (k : Nat) (hk : k < 7) : (privName k).length ≤ 9 :=
  seven (p := fun k => (privName k).length ≤ 9) (by decide) (by decide) (by decide) (by decide) (by decide) (by decide) (by decide) k hk
theorem privN_name (k : Nat) (hk : k < 7) : privN (privName k) = privNo k :=
  seven (p := fun k => privN (privName k) = privNo k) rfl rfl rfl rfl rfl rfl rfl k hk
theorem privNo_pos (k : Nat) (hk : k < 7) : 0 < privNo k :=
  seven (p := fun k => 0 < privNo k) (by decide) (by decide) (by decide) (by decide) (by decide) (by decide) (by decide) k hk
theorem privN_more (u : UInt8) (k : Nat) (hk : k < 7) : privN (privName k ++ [u]) = 0 :=
  seven (p := fun k => privN (privName k ++ [u]) = 0) (by simp [privN, privName]) (by simp [privN, privName]) (by simp [privN, privName]) (by simp [privN, privName]) (by simp [privN, privName]) (by simp [privN, privName]) (by simp [privN, privName]) k hk

set_option maxRecDepth 100000 in
theorem privCaseN (N : List UInt8) (z : Int) (n mask c : Int) (hN : ∀ b ∈ N, 65 ≤ b.toNat ∧ b.toNat ≤ 90) (hl : N.length ≤ 9) (hz : 0 < z)
    (hd : namesBlk[(n % 7).toNat]? = some (.string ⟨N.toArray⟩)) (h7 : n % 7 < 7) (h0 : 0 ≤ n % 7) (hp1 : privN N = z) (hp2 : ∀ u, privN (N ++ [u]) = 0)
    (hPN : ∀ w, Calls Tryd.prog 25 #[.string ⟨N.toArray⟩] w fun e w' => e = .returned (.int .i64 z) ∧ Gr w w')
    (hn : 0 ≤ n ∧ n < 256) (hm : 0 ≤ mask ∧ mask < 65536) (hc : 0 ≤ c ∧ c < 256) (w : World) (ht : Tab10 w) :
    Calls Tryd.prog 6 #[.int .u8 n, .int .u16 mask, .int .u8 c] w fun e w' => e = .returned (.bool true) ∧ Gr w w' := by
  have HNM := Lib.hid (namesC w)
  have HPN := fun w => Lib.hid (hPN w)
  clear hPN
  have G0 : Gr w (w.alloc (.cells namesBlk 9)) := (Gr.refl w).alloc _
  obtain ⟨cap, W2, hcv, hrw, hg, hc1, hc2⟩ := bytes_of_str_rw N (w.alloc (.cells namesBlk 9)) (by simp only [maxLen]; omega)
  obtain ⟨m, hm'⟩ : ∃ m, N.length = m := ⟨_, rfl⟩
  obtain ⟨b, hb⟩ : ∃ b, (w.alloc (.cells namesBlk 9)).heap.size = b := ⟨_, rfl⟩
  have hback := fun M (hM : M.length = m) w h => Lib.hid (hM ▸ str_of_bytes b cap M w h : (convert 44 9 (.slice (some ⟨b, 0, none⟩) m cap)).run Tryd.prog w = .ok (.string (bs M)) w)
  rw [hm'] at hcv hc1 hl
  rw [hb] at hcv hrw
  have hcm : cap ≤ 9223372036854775807 := by simp only [maxLen] at hc2; omega
  have HB := Lib.hid hb
  have HM := Lib.hid hm'
  have HG := Lib.hid (G0.trans hg)
  have HRW := Lib.hid hrw
  have HN := Lib.hid hN
  have HZ := Lib.hid hz
  have HP1 := Lib.hid hp1
  have HP2 := fun u => Lib.hid (hp2 u)
  clear hrw hg hb hm' hc2 G0 hN hz hp1 hp2
  simp only [bs] at hcv
  generalize (⟨N.toArray⟩ : ByteArray) = NB at *
  go_enter Tryd.func6, Tryd.ntmps6
  go_wp2_with (first | (go_at_call 24; go_must (with_reducible refine HNM.out.mono ?_); rintro e w0 ⟨rfl, rfl⟩))
  go_loopw [21] (fun i wr => ∃ k : Nat, i = .int .i64 k ∧ k ≤ m ∧ ∃ L, Half N L k ∧ RwAt wr b (nums L) ∧ Gr w wr) (fun i _ => ((m : Int) - intOf i).toNat)
  case atStart => exact ⟨0, rfl, Nat.zero_le _, N, ⟨rfl, up_same N HN.out, rfl⟩, HRW.out, HG.out⟩
  case round =>
    obtain ⟨k, rfl, hk, L, hL, hrw, hgr⟩ := hrel
    by_cases hkn : k < m
    · have kc := hrw.cell k (by rw [nums_length, hL.len, HM.out]; exact hkn)
      rw [hL.get (by rw [HM.out]; exact hkn)] at kc
      have hf := hrw.free k (by rw [nums_length, hL.len, HM.out]; exact hkn)
      have hkL : k < N.length := by rw [HM.out]; exact hkn
      have hx := HN.out N[k] (List.getElem_mem hkL)
      obtain ⟨hs1, hs2⟩ := hL.set hkL hx
      have HS1 := Lib.hid hs1
      have HS2 := Lib.hid hs2
      have HSK := Lib.hid hL.skip
      have HR := Lib.hid hrw
      have HGR := Lib.hid hgr
      clear hrw hgr hL hs1 hs2
      generalize hxe : (N[k].toNat : Int) = x at *
      have hx1 : 65 ≤ x ∧ x ≤ 90 := by omega
      clear hxe hx
      go_wp2
      · go_roundw
        case rel => exact ⟨k + 1, by go_num, by omega, _, HS1.out, by rw [HS2.out]; exact HR.out.set k (by rw [nums_length]; have := HS1.out.len; have hmm := HM.out; rw [List.length_set] at this; omega) _ (by omega), HGR.out.setCell (by rw [← HB.out]; simp) _⟩
        case measure => first | (simp [intOf]; done) | (simp [intOf]; omega)
      · go_roundw
        case rel => exact ⟨k + 1, by go_num, by omega, L, HSK.out, HR.out, HGR.out⟩
        case measure => first | (simp [intOf]; done) | (simp [intOf]; omega)
    · obtain rfl : m = k := by omega
      have hLa := hL.ascii HN.out
      have hLl : L.length = m := by rw [hL.len]; exact HM.out
      have hpn := privilege L (by omega) hLa
      rw [hL.up, HP1.out] at hpn
      have HPV := fun w => Lib.hid (hpn w)
      have HGR := Lib.hid hgr
      have hcb := fun (w' : World) (g : Gr wr w') => Lib.hid (hback L hLl w' (hrw.gr g)).out
      obtain ⟨v, hv⟩ : ∃ v : UInt8, (v.toNat : Int) = 33 + c % 94 := ⟨UInt8.ofNat (33 + c % 94).toNat, by simp; omega⟩
      have hone := fun w => Lib.hid (hv ▸ one_str v w : (convert 44 9 (.slice (some ⟨w.heap.size, 0, none⟩) 1 1)).run Tryd.prog (w.alloc (.cells #[.int .u8 (33 + c % 94)] 5)) = .ok (.string (bs [v])) (w.alloc (.cells #[.int .u8 (33 + c % 94)] 5)))
      have hpm := privilege (L ++ [v]) (by simp; omega) (by
        intro b hb
        rcases List.mem_append.1 hb with h | h
        · exact hLa b h
        · obtain rfl : b = v := by simpa using h
          omega)
      rw [show Lib.toUpperA (L ++ [v]) = Lib.toUpperA L ++ [Lib.upperB v] by simp [Lib.toUpperA], hL.up, (HP2 _).out] at hpm
      have HPM := fun w => Lib.hid (hpm w)
      have hcat : bs L ++ bs [v] = bs (L ++ [v]) := by
        apply ByteArray.ext; simp [bs]
      have HCAT := Lib.hid hcat
      have hzp := HZ.out
      have hsz : ¬ 9223372036854775807 < (bs L).size + (bs [v]).size := by rw [bs_size, bs_size]; simp; omega
      clear hpn hpm hback hrw hgr hLa hv hcat
      have HA := fun w ht => Lib.hid (awakeC w ht)
      go_wp2_with (first
        | (go_at_call 25; go_must (with_reducible refine (HPN _).out.mono ?_); rintro e w1 ⟨rfl, hg1⟩; have hcv1 := (hcb _ hg1).out; have hcv2 := (hone w1).out; have hcv3 := (hcb _ (Gr.alloc hg1 (.cells #[.int .u8 (33 + c % 94)] 5))).out)
        | (go_at_call 26; with_reducible refine (HPV _).out.mono ?_; rintro e w2 ⟨rfl, hg2⟩)
        | (go_at_call 26; rw [HCAT.out]; with_reducible refine (HPM _).out.mono ?_; rintro e w3 ⟨rfl, hg3⟩)
        | (go_at_call 21; go_must (with_reducible refine (HA _ (ht.gr (HGR.out.trans (Gr.trans (Gr.trans (hg1.alloc _) hg2) hg3)))).out.mono ?_); rintro e w4 ⟨rfl, hg4⟩))
      go_ret
      exact ⟨rfl, HGR.out.trans ((((hg1.alloc _).trans hg2).trans hg3).trans hg4)⟩

theorem privCase (n mask c : Int) (hn : 0 ≤ n ∧ n < 256) (hm : 0 ≤ mask ∧ mask < 65536) (hc : 0 ≤ c ∧ c < 256) (w : World) (ht : Tab10 w) :
    Calls Tryd.prog 6 #[.int .u8 n, .int .u16 mask, .int .u8 c] w fun e w' => e = .returned (.bool true) ∧ Gr w w' := by
  have hk : (n % 7).toNat < 7 := by omega
  refine privCaseN (privName (n % 7).toNat) (privNo (n % 7).toNat) n mask c (privName_up _ hk) (privName_len _ hk) (privNo_pos _ hk) ?_ (by omega) (by omega) (privN_name _ hk) (fun u => privN_more u _ hk) (privNum _ hk) hn hm hc w ht
  exact seven (p := fun j => namesBlk[j]? = some (.string ⟨(privName j).toArray⟩)) rfl rfl rfl rfl rfl rfl rfl _ hk
end Go.Proofs.YtkonfcgdokabaaaDoor
