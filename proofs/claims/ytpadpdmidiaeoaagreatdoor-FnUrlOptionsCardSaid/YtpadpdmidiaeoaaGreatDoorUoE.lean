/- spec.ConfigParts: the walk. -/
import Derived.Test.YtpadpdmidiaeoaaGreatDoorUoD
import Derived.Test.YtpadpdmidiaeoaaGreatDoorUrX
import Derived.Deep.RegionHeld3
import Derived.LoopN
namespace Go.Proofs.YtpadpdmidiaeoaaGreatDoor
open Go Go.RowKit Go.Lib

theorem splitL_part (c : UInt8) : ∀ (L : List UInt8), ∀ p ∈ splitL c L, p.length ≤ L.length
  | [], p, h => by simp [splitL] at h; subst h; simp
  | b :: L, p, h => by
    have ih := splitL_part c L
    unfold splitL at h
    split at h
    · rcases List.mem_cons.1 h with rfl | h
      · simp
      · have := ih p h; simp; omega
    · split at h
      · rename_i e; exact absurd e (splitL_ne c L)
      · rename_i q qs e
        rw [e] at ih
        rcases List.mem_cons.1 h with rfl | h
        · have := ih q (List.mem_cons_self ..); simp; omega
        · have := ih p (List.mem_cons_of_mem _ h); simp; omega
theorem last_at {α : Type} (P : List α) (d : α) (m : Nat) (h : P.length = m + 1) : P[m]? = some (P.getLastD d) := by
  rw [List.getLastD_eq_getLast?, List.getLast?_eq_getElem?, h, Nat.add_sub_cancel, List.getElem?_eq_getElem (by omega)]
  rfl
theorem set_mid' {α : Type} (A D : List α) (x y : α) (j : Nat) (h : A.length = j) : (A ++ x :: D).set j y = (A ++ [y]) ++ D := by subst h; simp
theorem RwAt.of_block {a w : World} {b : Nat} {xs : List Int} (h : RwAt a b xs) (e : w.heap[b]? = a.heap[b]?) : RwAt w b xs := by
  obtain ⟨⟨h1, h2⟩, h3⟩ := h
  exact ⟨⟨fun i hi => (World.cell?_of_block (w := a) e).trans (h1 i hi), h2⟩, fun i hi => (World.frozen?_of_block (w := a) e).trans (h3 i hi)⟩

set_option maxRecDepth 100000 in
set_option maxHeartbeats 4000000 in
theorem configParts (L : List UInt8) (hl : L.length ≤ 100000) (w : World) :
    Calls Tryz.prog 18 #[.string (bs L)] w fun e w' => ∃ v, e = .returned v ∧ OwnT w.heap.size w' v ((splitL 44 L).map trimB) ∧ Gr w w' := by
  obtain ⟨c, W2, hcv, hrw, hg, hc1, hc2⟩ := bytes_of_str_rw L (w.alloc (.cells #[.string ⟨#[]⟩] 9)) (by simp only [maxLen]; omega)
  obtain ⟨n, hn⟩ : ∃ n, L.length = n := ⟨_, rfl⟩
  have hsz : (bs L).size = n := by rw [bs_size, hn]
  have hcm : c ≤ 9223372036854775807 := by simp only [maxLen] at hc2; omega
  obtain ⟨H, hH⟩ : ∃ H, w.heap.size = H := ⟨_, rfl⟩
  have hHs : (w.alloc (.cells #[.string ⟨#[]⟩] 9)).heap.size = H + 1 := by simp [hH]
  rw [hHs] at hcv hrw
  have hown : OwnT H W2 (.slice (some ⟨H, 0, none⟩) 1 1) [[]] := by
    refine OwnR.gr ⟨fun c hc => by obtain ⟨p, _, rfl⟩ := List.mem_map.1 hc; rfl, ?_, .inr ⟨H, 1, #[.string ⟨#[]⟩], rfl, Nat.le_refl _, heap_new_at w _ hH.symm, Nat.le_refl _, by simp [maxLen], rfl, rfl⟩⟩ hg
    rfl
  have HRW := Lib.hid hrw
  have HG := Lib.hid (((Gr.refl w).alloc (.cells #[.string ⟨#[]⟩] 9)).trans hg)
  have HN := Lib.hid hn
  have HO := Lib.hid hown
  have HLT := Lib.hid hrw.cell
  rw [hn] at hcv hc1 hl
  obtain ⟨X, hX⟩ : ∃ X, bs L = X := ⟨_, rfl⟩
  rw [hX] at hcv hsz ⊢
  rw [hH]
  clear hrw hg hc2 hn hown hX hHs
  go_enter Tryz.func18, Tryz.ntmps18
  go_wp2
  go_loopw [12, 3] (fun i s wr => ∃ k : Nat, i = .int .i64 k ∧ k ≤ n ∧ Hid (OwnT H wr s (splitL 44 (L.take k))) ∧ Hid (Gr w wr) ∧ Hid (RwAt wr (H + 1) (nums L))) (fun i _ _ => ((n : Int) - intOf i).toNat)
  case atStart => exact ⟨0, rfl, Nat.zero_le _, HO, HG, HRW⟩
  case round =>
    obtain ⟨k, rfl, hkn, HO, HGR, HRW⟩ := hrel
    by_cases e : k < n
    · have hkl : k < L.length := by rw [HN.out]; exact e
      have cx : wr.cell? ⟨H + 1, k, none⟩ = some (.int .u8 (L[k].toNat : Int)) := by
        have := HRW.out.cell k (by rw [nums_length]; exact hkl)
        rw [this]; simp [nums, List.getD_eq_getElem?_getD, hkl]
      have htk : L.take (k + 1) = L.take k ++ [L[k]] := List.take_succ_eq_append_getElem hkl
      have hpos := splitL_pos 44 (L.take k)
      have hlen := splitL_len 44 (L.take k)
      rw [List.length_take] at hlen
      obtain ⟨b, cap, rfl, hp1, hp2, hp3, hp4⟩ := HO.out.row hpos
      have hcap : cap ≤ 9223372036854775807 := by simp only [maxLen] at hp2; omega
      have hb256 := L[k].toNat_lt
      have HTK := Lib.hid htk
      have hbne : b ≠ H + 1 := by
        intro e
        have h1 := HO.out.cell 0 hpos
        have h2 := HRW.out.cell 0 (by rw [nums_length]; omega)
        rw [e, h2] at h1
        cases h1
      have hbl := World.block_lt_of_cell? wr _ cx
      simp only at hbl
      generalize L[k] = ch at *
      clear htk hkl
      by_cases h44 : ch = 44
      · subst h44
        have hz : (((44 : UInt8).toNat : Nat) : Int) = 44 := rfl
        rw [hz] at cx
        have hsp := splitL_sep 44 (L.take k)
        rw [← HTK.out] at hsp
        have HSP := Lib.hid hsp
        have hQl : (splitL 44 (L.take k)).length ≤ 100001 := by omega
        have HQL := Lib.hid hQl
        generalize splitL 44 (L.take k) = P at *
        have HRW2 : Hid (strRow P ++ [[.string ⟨#[]⟩]] = strRow (P ++ [[]])) := Lib.hid (by simp [strRow, bs])
        clear hsp hlen hQl
        go_wp2_with (first
          | (at_builtin; go_must (refine wpList_append_row rfl _ _ rfl Tryz.underlying28 strInfo rfl (by decide) (by decide) (B := H) (cs := strRow P) rfl (OwnR.gr HO.out ((Gr.refl wr).alloc _)) [[.string ⟨#[]⟩]] (by intro c hc; simp at hc; subst hc; exact ⟨rfl, fun u hu => by simp at hu; subst hu; rfl⟩) ⟨wr.heap.size, 0, none⟩ 1 1 rfl rfl (cell_new rfl) (by have := HQL.out; simp [strRow]; omega) (by simp; omega) ?_); intro v5 w5 ho5 hg5; have HB5 := Lib.hid (Below.trans (Below.mono (HGR.out.alloc _) (by rw [← hH]; exact Nat.le_refl _)) ((OwnR.gr HO.out ((Gr.refl wr).alloc _)).below hg5 (by simp; omega))); have HO5 := Lib.hid ho5; have HG5 := Lib.hid hg5; clear ho5 hg5))
        go_roundw
        case rel => exact ⟨k + 1, by go_num, by omega, (by show OwnT H w5 v5 _; rw [HSP.out]; unfold OwnT; rw [← HRW2.out]; exact HO5.out), (by have := HB5.out; rw [← hH] at this; exact this), HRW.out.of_block (by rw [HG5.out.block (H + 1) (by simp; omega) (by intro e; injection e with e; exact hbne e.symm)]; exact (Gr.refl wr).alloc _ |>.block hbl)⟩
        case measure => simp [intOf]; omega
      · have hz2 : ((ch.toNat : Int) == 44) = false := beq_eq_false_iff_ne.2 fun e => h44 (UInt8.toNat_inj.1 (by show ch.toNat = 44; omega))
        have hz3 : ¬ (ch.toNat : Int) = 44 := by simpa using hz2
        have HPT := Lib.hid (show ∀ p ∈ splitL 44 (L.take k), p.length ≤ 100000 from fun p hp => by have := splitL_part 44 (L.take k) p hp; rw [List.length_take] at this; omega)
        have hsp := splitL_snoc 44 ch h44 (L.take k)
        rw [← HTK.out] at hsp
        have HSP := Lib.hid hsp
        generalize splitL 44 (L.take k) = P at *
        obtain ⟨m, hm⟩ : ∃ m, P.length = m + 1 := ⟨P.length - 1, by omega⟩
        have hla := last_at P [] m hm
        have cl := HO.out.cell m (by omega)
        have fr := HO.out.free m
        have hpm : P[m]'(by omega) = P.getLastD [] := by
          rw [List.getElem?_eq_getElem (by omega)] at hla
          exact Option.some.inj hla
        rw [hpm] at cl
        have hQl : (bs (P.getLastD [])).size ≤ 100000 := by
          rw [bs_size]
          exact HPT.out _ (by rw [← hpm]; exact List.getElem_mem _)
        have HM := Lib.hid hm
        have HOO := HO
        rw [hm] at HOO HSP ⊢
        generalize P.getLastD [] = q at *
        have hconv : ∀ W, W.cell? ⟨wr.heap.size, 0, none⟩ = some (.int .u8 (ch.toNat : Int)) → (convert 33 9 (.slice (some ⟨wr.heap.size, 0, none⟩) 1 1)).run Tryz.prog W = .ok (.string (bs [ch])) W := fun W hW =>
          run_convert_bytes_back W 33 9 5 ⟨wr.heap.size, 0, none⟩ 1 [ch] Tryz.underlying33 Tryz.underlying5 Tryz.underlying9 fun j hj => by
            have hj0 : j = 0 := by simpa using hj
            subst hj0
            rw [Lib.addr_add]
            simpa using hW
        have hmb : m ≤ 200000 := by omega
        have i1 : (m : Int) < (m : Int) + 1 := by omega
        have hmw : IntKind.i64.wrap (m : Int) = (m : Int) := by rw [IntKind.wrap_i64]; omega
        clear hsp hlen h44 hz2 hla hpm HO
        have z1 : (bs [ch]).size = 1 := rfl
        obtain ⟨Q, hQ⟩ : ∃ Q, bs q = Q := ⟨_, rfl⟩
        rw [hQ] at cl hQl
        have HQ := Lib.hid hQ
        obtain ⟨CH, hCH⟩ : ∃ Q, bs [ch] = Q := ⟨_, rfl⟩
        rw [hCH] at hconv z1
        have HCH := Lib.hid hCH
        clear hQ hCH
        go_wp2_with fail
        go_region
        go_wp2
        go_roundw
        case rel =>
          refine ⟨k + 1, by go_num, by omega, ?_, ?_, ?_⟩
          · have h := (HOO.out.set m (by rw [HM.out]; exact Nat.lt_succ_self m) (q ++ [ch])).gr (((Gr.refl _).alloc (.cells #[.int .u8 (ch.toNat : Int)] 5)).drew)
            rw [← bs_append, HQ.out, HCH.out] at h
            show OwnT H _ _ _
            rw [HSP.out, Nat.add_sub_cancel]
            exact h
          · exact ((HGR.out.setCell (by show w.heap.size ≤ b; omega) _).alloc _).drew
          · refine HRW.out.of_block ?_
            show ((wr.setCell ⟨b, m, none⟩ _).alloc _).heap[H + 1]? = _
            rw [Below.heap_alloc _ _ _ (by simp [World.setCell]; exact hbl), Below.heap_setCell _ _ _ _ (fun e => hbne e.symm)]
        case measure => simp [intOf]; omega
    · obtain rfl : n = k := by omega
      have et : L.take n = L := by rw [← HN.out, List.take_length]
      have HO2 := HO.out
      rw [et] at HO2
      have hpos := splitL_pos 44 L
      have hlen := splitL_len 44 L
      have HPT := Lib.hid (show ∀ p ∈ splitL 44 L, p.length ≤ 100000 from fun p hp => by have := splitL_part 44 L p hp; have := HN.out; omega)
      obtain ⟨P, hP⟩ : ∃ P, splitL 44 L = P := ⟨_, rfl⟩
      rw [hP] at hpos hlen HPT HO2
      have HPE := Lib.hid hP
      clear hP
      obtain ⟨b, cap, rfl, hp1, hp2, hp3, hp4⟩ := HO2.row hpos
      have hcap : cap ≤ 9223372036854775807 := by simp only [maxLen] at hp2; omega
      obtain ⟨m, hm⟩ : ∃ m, P.length = m := ⟨_, rfl⟩
      have HM := Lib.hid hm
      have hmb : m ≤ 100001 := by have := HN.out; omega
      rw [hm] at HO2 hp1 ⊢
      have HO3 := Lib.hid HO2
      clear et HO HO2 HRW hp2 hp4 hlen hpos hm
      go_wp2
      go_loopw [35] (fun i wz => ∃ j : Nat, i = .int .i64 j ∧ j ≤ m ∧ Hid (OwnT H wz (.slice (some ⟨b, 0, none⟩) m cap) ((P.take j).map trimB ++ P.drop j)) ∧ Hid (Gr w wz)) (fun i _ => ((m : Int) - intOf i).toNat)
      case atStart => exact ⟨0, rfl, Nat.zero_le _, by simpa using HO3, HGR⟩
      case round =>
        obtain ⟨j, rfl, hj, HO, HG2⟩ := hrel
        by_cases e : j < m
        · have hjl : j < P.length := by rw [HM.out]; exact e
          have hrl : ((P.take j).map trimB ++ P.drop j).length = m := by have := HM.out; simp; omega
          have cl := HO.out.cell j (by rw [hrl]; exact e)
          have fr := HO.out.free j
          have hgj : ((P.take j).map trimB ++ P.drop j)[j]'(by rw [hrl]; exact e) = P[j] := by
            rw [List.getElem_append_right (by simp; omega)]
            simp [Nat.min_eq_left (Nat.le_of_lt hjl)]
          rw [hgj] at cl
          have hset : ((P.take j).map trimB ++ P.drop j).set j (trimB P[j]) = (P.take (j + 1)).map trimB ++ P.drop (j + 1) := by
            rw [List.take_succ_eq_append_getElem hjl, List.drop_eq_getElem_cons hjl, List.map_append]
            exact set_mid' _ _ _ _ j (by simp; omega)
          have hpl := HPT.out _ (List.getElem_mem hjl)
          have HSET := Lib.hid hset
          have HRL := Lib.hid hrl
          generalize P[j] = p at *
          clear hgj hset hrl hjl
          go_wp2
          go_loopw [7] (fun s wq => ∃ q, s = .string (bs q) ∧ q.length ≤ 100000 ∧ Hid (q.dropWhile (· == 32) = p.dropWhile (· == 32)) ∧ wq = wr) (fun s _ => match s with | .string x => x.size | _ => 0)
          case atStart => exact ⟨p, rfl, hpl, rfl, rfl⟩
          case round =>
            obtain ⟨q, rfl, hql, HQ, rfl⟩ := hrel
            cases q with
            | nil =>
              have hz0 : (bs []).size = 0 := rfl
              have HQ0 : Hid (trimR [] = trimB p) := by show _ = _; unfold trimB; rw [← HQ.out]; rfl
              have hq0 : ([] : List UInt8).length ≤ 100000 := by simp
              clear HQ
              go_wp2
              go_loopw [7] (fun s wq => ∃ q, s = .string (bs q) ∧ q.length ≤ 100000 ∧ Hid (trimR q = trimB p) ∧ wq = wr) (fun s _ => match s with | .string x => x.size | _ => 0)
              case atStart => exact ⟨[], rfl, hq0, HQ0, rfl⟩
              case round =>
                obtain ⟨q, rfl, hql, HQ, rfl⟩ := hrel
                rcases List.eq_nil_or_concat q with rfl | ⟨r, a, rfl⟩
                · have hz0 : (bs []).size = 0 := rfl
                  have HB : Hid (bs [] = bs (trimB p)) := by show _ = _; rw [← HQ.out]; rfl
                  clear HQ
                  go_wp2
                  go_roundw
                  case rel => exact ⟨j + 1, by go_num, by omega, (by have h := HO.out.set j (by rw [HRL.out]; exact e) (trimB p); rw [HSET.out, ← HB.out] at h; exact h), HG2.out.setCell (by show w.heap.size ≤ b; omega) _⟩
                  case measure => simp [intOf]; omega
                · rw [List.concat_eq_append] at *
                  have hsz1 : (bs (r ++ [a])).size = r.length + 1 := by rw [bs_size]; simp
                  have hx0 := bs_idx0 (r ++ [a]) r.length a (by simp)
                  have hcut : (bs (r ++ [a])).extract 0 r.length = bs r := bs_extract' _ _ _ _ (by simp)
                  have hrl : r.length ≤ 99999 := by simp at hql; omega
                  by_cases ha : a = 32
                  · subst ha
                    have hz : (((32 : UInt8).toNat : Nat) : Int) = 32 := rfl
                    rw [hz] at hx0
                    have HQ1 : Hid (trimR r = trimB p) := by show _ = _; rw [← HQ.out, trimR_snoc]
                    have hzr : (bs r).size = r.length := bs_size r
                    have HLN := Lib.hid (show r.length ≤ 100000 by omega)
                    generalize bs (r ++ [32]) = Y at *
                    obtain ⟨Z, hZ⟩ : ∃ Z, bs r = Z := ⟨_, rfl⟩
                    rw [hZ] at hcut hzr
                    have HZ := Lib.hid hZ
                    generalize hrr : r.length = rl at *
                    have HRR := Lib.hid hrr
                    clear hql HQ hZ hrr
                    go_wp2
                    go_roundw
                    case rel => exact ⟨r, by rw [HZ.out], (by rw [HRR.out]; exact HLN.out), HQ1, trivial⟩
                    case measure => first | (simp; done) | (simp; omega)
                  · have hna : ((a.toNat : Int) == 32) = false := beq_eq_false_iff_ne.2 fun e => ha (UInt8.toNat_inj.1 (by show a.toNat = 32; omega))
                    have hnb : ¬ (a.toNat : Int) = 32 := by simpa using hna
                    have HB : Hid (bs (r ++ [a]) = bs (trimB p)) := by show _ = _; rw [← HQ.out, trimR_stop r a ha]
                    generalize bs (r ++ [a]) = Y at *
                    generalize a.toNat = x at *
                    generalize r.length = rl at *
                    clear hql HQ ha hna hcut
                    go_wp2
                    go_roundw
                    case rel => exact ⟨j + 1, by go_num, by omega, (by have h := HO.out.set j (by rw [HRL.out]; exact e) (trimB p); rw [HSET.out, ← HB.out] at h; exact h), HG2.out.setCell (by show w.heap.size ≤ b; omega) _⟩
                    case measure => simp [intOf]; omega
            | cons a r =>
              have hsz1 : (bs (a :: r)).size = r.length + 1 := by rw [bs_size]; rfl
              have hx0 := bs_idx0 (a :: r) 0 a rfl
              have hcut : (bs (a :: r)).extract 1 (r.length + 1) = bs r := bs_extract' _ _ _ _ (by simp)
              have hrl : r.length ≤ 99999 := by simp at hql; omega
              by_cases ha : a = 32
              · subst ha
                have hz : (((32 : UInt8).toNat : Nat) : Int) = 32 := rfl
                rw [hz] at hx0
                have HQ1 : Hid (r.dropWhile (· == 32) = p.dropWhile (· == 32)) := by show _ = _; rw [← HQ.out]; simp
                have hzr : (bs r).size = r.length := bs_size r
                have HLN := Lib.hid (show r.length ≤ 100000 by omega)
                generalize bs (32 :: r) = Y at *
                obtain ⟨Z, hZ⟩ : ∃ Z, bs r = Z := ⟨_, rfl⟩
                rw [hZ] at hcut hzr
                have HZ := Lib.hid hZ
                generalize hrr : r.length = rl at *
                have HRR := Lib.hid hrr
                clear hql HQ hZ hrr
                go_wp2
                go_roundw
                case rel => exact ⟨r, by rw [HZ.out], (by rw [HRR.out]; exact HLN.out), HQ1, trivial⟩
                case measure => first | (simp; done) | (simp; omega)
              · have hna : ((a.toNat : Int) == 32) = false := beq_eq_false_iff_ne.2 fun e => ha (UInt8.toNat_inj.1 (by show a.toNat = 32; omega))
                have hnb : ¬ (a.toNat : Int) = 32 := by simpa using hna
                have HQ0 : Hid (trimR (a :: r) = trimB p) := by show _ = _; unfold trimB; rw [← HQ.out]; simp [ha]
                have hq0 : (a :: r).length ≤ 100000 := hql
                obtain ⟨L0, hL0⟩ : ∃ L0, a :: r = L0 := ⟨_, rfl⟩
                rw [hL0] at HQ0 hq0 hx0 hsz1
                rw [hL0]
                generalize a.toNat = x at *
                generalize r.length = rl at *
                clear hql HQ ha hna hcut hL0
                go_wp2
                go_loopw [7] (fun s wq => ∃ q, s = .string (bs q) ∧ q.length ≤ 100000 ∧ Hid (trimR q = trimB p) ∧ wq = wr) (fun s _ => match s with | .string x => x.size | _ => 0)
                case atStart => exact ⟨L0, rfl, hq0, HQ0, rfl⟩
                case round =>
                  obtain ⟨q, rfl, hql, HQ, rfl⟩ := hrel
                  rcases List.eq_nil_or_concat q with rfl | ⟨r, a, rfl⟩
                  · have hz0 : (bs []).size = 0 := rfl
                    have HB : Hid (bs [] = bs (trimB p)) := by show _ = _; rw [← HQ.out]; rfl
                    clear HQ
                    go_wp2
                    go_roundw
                    case rel => exact ⟨j + 1, by go_num, by omega, (by have h := HO.out.set j (by rw [HRL.out]; exact e) (trimB p); rw [HSET.out, ← HB.out] at h; exact h), HG2.out.setCell (by show w.heap.size ≤ b; omega) _⟩
                    case measure => simp [intOf]; omega
                  · rw [List.concat_eq_append] at *
                    have hsz1 : (bs (r ++ [a])).size = r.length + 1 := by rw [bs_size]; simp
                    have hx0 := bs_idx0 (r ++ [a]) r.length a (by simp)
                    have hcut : (bs (r ++ [a])).extract 0 r.length = bs r := bs_extract' _ _ _ _ (by simp)
                    have hrl : r.length ≤ 99999 := by simp at hql; omega
                    by_cases ha : a = 32
                    · subst ha
                      have hz : (((32 : UInt8).toNat : Nat) : Int) = 32 := rfl
                      rw [hz] at hx0
                      have HQ1 : Hid (trimR r = trimB p) := by show _ = _; rw [← HQ.out, trimR_snoc]
                      have hzr : (bs r).size = r.length := bs_size r
                      have HLN := Lib.hid (show r.length ≤ 100000 by omega)
                      generalize bs (r ++ [32]) = Y at *
                      obtain ⟨Z, hZ⟩ : ∃ Z, bs r = Z := ⟨_, rfl⟩
                      rw [hZ] at hcut hzr
                      have HZ := Lib.hid hZ
                      generalize hrr : r.length = rl at *
                      have HRR := Lib.hid hrr
                      clear hql HQ hZ hrr
                      go_wp2
                      go_roundw
                      case rel => exact ⟨r, by rw [HZ.out], (by rw [HRR.out]; exact HLN.out), HQ1, trivial⟩
                      case measure => first | (simp; done) | (simp; omega)
                    · have hna : ((a.toNat : Int) == 32) = false := beq_eq_false_iff_ne.2 fun e => ha (UInt8.toNat_inj.1 (by show a.toNat = 32; omega))
                      have hnb : ¬ (a.toNat : Int) = 32 := by simpa using hna
                      have HB : Hid (bs (r ++ [a]) = bs (trimB p)) := by show _ = _; rw [← HQ.out, trimR_stop r a ha]
                      generalize bs (r ++ [a]) = Y at *
                      generalize a.toNat = x at *
                      generalize r.length = rl at *
                      clear hql HQ ha hna hcut
                      go_wp2
                      go_roundw
                      case rel => exact ⟨j + 1, by go_num, by omega, (by have h := HO.out.set j (by rw [HRL.out]; exact e) (trimB p); rw [HSET.out, ← HB.out] at h; exact h), HG2.out.setCell (by show w.heap.size ≤ b; omega) _⟩
                      case measure => simp [intOf]; omega
        · obtain rfl : m = j := by omega
          have et : P.take m = P := by rw [← HM.out, List.take_length]
          have ed : P.drop m = [] := by rw [← HM.out, List.drop_length]
          have h := HO.out
          rw [et, ed, List.append_nil] at h
          have HOF := Lib.hid h
          clear h et ed
          go_wp2
          go_ret
          exact ⟨_, rfl, (by rw [HPE.out]; exact HOF.out), HG2.out⟩
end Go.Proofs.YtpadpdmidiaeoaaGreatDoor
