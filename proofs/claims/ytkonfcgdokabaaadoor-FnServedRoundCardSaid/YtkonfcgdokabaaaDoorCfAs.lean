/- (*DatabaseInfo).AddServer. -/
import Derived.Test.YtkonfcgdokabaaaDoorCfAd
import Derived.Deep.RegionLaw
namespace Go.Proofs.YtkonfcgdokabaaaDoor
open Go Go.RowKit

/-- append at a step of a region that draws its order. -/
theorem step_append_row {T : TypeId} {sz bytes : Nat} {z : Value} {w : World} {t : TypeId} {ops : Array Oper} {o : Oper} {a : Act} {K : Act → World → Prop} {Q : Exit → Act → World → Prop} {E : Prop} (hgd : o.guard = none) (s x : Operand)
    (ho : o.op = .call { callee := .builtin .append, args := #[s, x], argTypes := #[t, t] }) (hsl : Tryd.prog.underlying t = some (.slice T))
    (hinfo : (Tryd.prog.info? T).map (fun i => (i.zero, i.size, i.bytes)) = some (some z, sz, bytes)) (hzs : z.cells.size = sz) (hsz : 0 < sz) (hby : bytes ≤ 10000)
    {B : Nat} {v : Value} {cs : List (List Value)} (hs : a.eval s = v) (hown : OwnR T sz B w v cs) (ds : List (List Value)) (hd : ∀ c ∈ ds, c.length = sz ∧ ∀ u ∈ c, u.oneCell' = true)
    (A : Addr) (m c : Nat) (hx : a.eval x = .slice (some A) m c) (hm : ds.length = m) (hc : ∀ j u, ds.flatten[j]? = some u → w.cell? (A.add j) = some u) (hlim : cs.length + m ≤ 1000000) (hB : B ≤ w.heap.size)
    (h : ∀ v' w', OwnR T sz B w' v' (cs ++ ds) → w.grownBy w' v.ownBlock → K (a.put o.dst v') w') : if Region.wanted o (yielded ops a.tmps) = true then Oper.wp Tryd.prog o a w K Q else E := by
  have hw : Region.wanted o (yielded ops a.tmps) = true := by simp [Region.wanted, hgd]
  rw [if_pos hw]
  obtain ⟨v', w', hrun, h2, h3⟩ := run_append_row (ty := o.type) hsl hinfo hzs hsz hby hown ds hd A m c hm hc hlim hB
  unfold Oper.wp execOp
  simp only [ho, resolve, invoke, builtin, Sem.run_bind, Sem.run_pure, Result.andThen_ok, List.map_toArray, List.map_cons, List.map_nil, hs, hx, hrun]
  exact h v' w' h2 h3

/-- The cells of the package's own record of servers. -/
def infoC (sv : Value) (ix : Nat) : Array Value := #[.string ⟨#[]⟩, .string ⟨#[]⟩, sv, .int .i64 (ix : Nat), .string ⟨#[]⟩, .string ⟨#[]⟩, .string ⟨#[]⟩, .string ⟨#[]⟩, .string ⟨#[]⟩, .int .i64 0, .int .i64 0, .string ⟨#[]⟩, .string ⟨#[]⟩]
/-- The record lies in block I; its servers lie in a row of the call's own. -/
structure InfAt (w : World) (I B : Nat) (i : Inf) (sv : Value) : Prop where
  blk : w.heap[I]? = some (.cells (infoC sv i.ix) 55 (0, 0))
  row : OwnR 58 3 B w sv (i.S.map Srv.cs)
/-- All but the record and its row is kept. -/
structure Fr (C I : Nat) (sv : Value) (w w' : World) : Prop where
  below : Below C w w'
  kept : ∀ k o, w.heap[k]? = some o → k ≠ I → sv.ownBlock ≠ some k → w'.heap[k]? = some o
theorem OwnR.keep {T : TypeId} {sz B : Nat} {a w : World} {v : Value} {cs : List (List Value)} (h : OwnR T sz B a v cs) (g : ∀ k o, v.ownBlock = some k → a.heap[k]? = some o → w.heap[k]? = some o) : OwnR T sz B w v cs := by
  refine ⟨h.fl, h.row.1, ?_⟩
  rcases h.row.2 with h2 | ⟨b, cap, cur, rfl, hg, hh, r⟩
  · exact Or.inl h2
  · exact Or.inr ⟨b, cap, cur, rfl, hg, g b _ rfl hh, r⟩
theorem Fr.other {C I B : Nat} {sv : Value} {a w : World} {i : Inf} (h : Fr C I sv a w) (hi : InfAt a I B i sv) {U : TypeId} {sz D : Nat} {u : Value} {ds : List (List Value)} (hu : OwnR U sz D a u ds)
    (h1 : U ≠ 55) (h2 : U ≠ 58) : OwnR U sz D w u ds := by
  refine hu.keep fun k o hk ho => ?_
  obtain ⟨_, c, hc⟩ := hu.blk k hk
  refine h.kept k o ho (fun e => ?_) (fun e => ?_)
  · subst e
    have := hi.blk
    rw [hc] at this
    simp only [Option.some.injEq, Obj.cells.injEq] at this
    exact h1 this.2.1
  · obtain ⟨_, c2, hc2⟩ := hi.row.blk k e
    rw [hc] at hc2
    simp only [Option.some.injEq, Obj.cells.injEq] at hc2
    exact h2 hc2.2.1

theorem good_parts {s : Srv} (h : s.good = true) : s.a.length ≤ 100000 ∧ ∀ b ∈ s.a, b.toNat < 128 := by
  simp only [Srv.good, Bool.and_eq_true] at h
  have hl := Srv.short_len h.1
  exact ⟨by omega, fun b hb => by have := List.all_eq_true.1 h.2 b hb; simpa using this⟩

/-- A row of another kind than the record's stays where the record is written. -/
theorem OwnR.setI {T : TypeId} {sz B I : Nat} {w : World} {v : Value} {cs : List (List Value)} {c : Array Value} {f : Nat × Nat} (h : OwnR T sz B w v cs) (hb : w.heap[I]? = some (.cells c 55 f)) (hT : T ≠ 55) (j : Nat) (u : Value) :
    OwnR T sz B (w.setCell ⟨I, j, none⟩ u) v cs := by
  refine h.keep fun k o hk ho => ?_
  rw [heap_set_other _ _ _ _ (fun e => ?_)]
  · exact ho
  · obtain ⟨_, c2, h2⟩ := h.blk k hk
    have e : k = I := e
    subst e
    rw [hb] at h2
    simp only [Option.some.injEq, Obj.cells.injEq] at h2
    exact hT h2.2.1.symm
theorem add_blk {C I : Nat} {i : Inf} {sv : Value} {wm w5 : World} (hi : InfAt wm I C i sv) (hg5 : wm.grownBy w5 sv.ownBlock) : w5.heap[I]? = some (.cells (infoC sv i.ix) 55 (0, 0)) := by
  rw [hg5.block I (lt_of_some hi.blk) (fun e => ?_)]
  · exact hi.blk
  · obtain ⟨_, c2, h2⟩ := hi.row.blk I e.symm
    rw [hi.blk] at h2
    simp only [Option.some.injEq, Obj.cells.injEq] at h2
    exact absurd h2.2.1 (by decide)
theorem add_blk' {C I : Nat} {i : Inf} {sv : Value} {wr wm w5 : World} (hi : InfAt wr I C i sv) (hg5 : wm.grownBy w5 sv.ownBlock) (hG : Gr wr wm) : w5.heap[I]? = some (.cells (infoC sv i.ix) 55 (0, 0)) :=
  add_blk ⟨hG.heap hi.blk, OwnR.gr hi.row hG⟩ hg5
theorem add_end {C I : Nat} {S : List Srv} {x : Srv} {ix : Nat} {sv v5 : Value} {w wm w5 : World} (hi : InfAt w I C ⟨S, ix⟩ sv) (hC : C ≤ I) (hCw : C ≤ w.heap.size) (hG : Gr w wm) (ho5 : OwnR 58 3 C w5 v5 (S.map Srv.cs ++ [x.cs])) (hg5 : wm.grownBy w5 sv.ownBlock) :
    InfAt (w5.setCell ⟨I, 2, none⟩ v5) I C ⟨S ++ [x], ix⟩ v5 ∧ Fr C I sv w (w5.setCell ⟨I, 2, none⟩ v5) := by
  have him : InfAt wm I C ⟨S, ix⟩ sv := ⟨hG.heap hi.blk, OwnR.gr hi.row hG⟩
  have hb := add_blk him hg5
  refine ⟨⟨?_, ?_⟩, ?_, fun k o ho hk hne => ?_⟩
  · rw [heap_set_same v5 hb]
    rfl
  · simp only [List.map_append, List.map_cons, List.map_nil]
    exact ho5.setI hb (by decide) 2 v5
  · refine Below.trans (Below.trans (Below.mono hG hCw) (him.row.below hg5 (Nat.le_trans hCw hG.size))) ?_
    exact (Below.refl C w5).setCell hC _
  · rw [heap_set_other _ _ _ _ hk, hg5.block k (lt_of_some (hG.heap ho)) (fun e => hne e.symm)]
    exact hG.heap ho

def RetAdd (C I : Nat) (i : Inf) (sv : Value) (w : World) (e : Ending) (w' : World) : Prop := e = .returned (.tuple #[]) ∧ ∃ sv', InfAt w' I C i sv' ∧ Fr C I sv w w'

set_option maxRecDepth 100000 in
set_option maxHeartbeats 1000000 in
theorem addServer (C I : Nat) (i : Inf) (sv : Value) (x : Srv) (w : World) (hi : InfAt w I C i sv) (hC : C ≤ I) (hx : x.good = true) (hS : ∀ s ∈ i.S, s.good = true) (hlen : i.S.length ≤ 1000) :
    Calls Tryd.prog 31 #[.pointer (some ⟨I, 0, none⟩), .agg #[.string x.p, .string (bs x.a), .int .i64 x.n]] w (RetAdd C I ⟨addS i.S x, i.ix⟩ sv w) := by
  obtain ⟨S, ix⟩ := i
  obtain ⟨n, hn⟩ : ∃ n, S.length = n := ⟨_, rfl⟩
  have hI := lt_of_some hi.blk
  obtain ⟨p, c, rfl, hlc, hcm, _⟩ := hi.row.shape
  simp only [List.length_map] at hlc hi ⊢
  simp only at hS hlen
  rw [hn] at hlc hi hlen ⊢
  have hcm2 : c ≤ 9223372036854775807 := by simp only [maxLen] at hcm; omega
  obtain ⟨H, hH⟩ : ∃ H, w.heap.size = H := ⟨_, rfl⟩
  have hIH : I < H := by omega
  have HIN := Lib.hid hi
  have hG0 : Gr w (w.alloc (.cells #[.string x.p, .string (bs x.a), .int .i64 x.n] 58)) := (Gr.refl w).alloc _
  have hb0 := heap_new_at w (.cells #[.string x.p, .string (bs x.a), .int .i64 x.n] 58) hH.symm
  have hI0 := hG0.heap hi.blk
  have hR0 := OwnR.gr hi.row hG0
  have HN := Lib.hid hn
  have HS := Lib.hid hS
  have HX := Lib.hid hx
  clear hS hx hn
  generalize hS1 : bs x.a = S1 at *
  go_enter Tryd.func31, Tryd.ntmps31
  go_wp2
  generalize hW0 : w.alloc _ = W at *
  have s0 := hG0.size
  have hHW : W.heap.size = H + 1 := by rw [← hW0]; simp [hH]
  have HG0 := Lib.hid hG0
  have HHW := Lib.hid hHW
  have HI0 := Lib.hid hI0
  have HR0 := Lib.hid hR0
  have HB0 := Lib.hid hb0
  clear hW0 hi hG0 hI0 hR0 hb0 hHW
  go_loopw [4] (fun t wr => ∃ j : Nat, t = .int .i64 j ∧ j ≤ n ∧ (S.take j).any (srvSame x) = false ∧ Gr W wr) (fun t _ => ((n : Int) - intOf t).toNat)
  case atStart => exact ⟨0, rfl, Nat.zero_le _, by simp, Gr.refl _⟩
  case round =>
    obtain ⟨j, rfl, hj, hany, hgr⟩ := hrel
    have hbI := hgr.heap HI0.out
    have i2 := blk_cell hbI 2
    simp [infoC] at i2
    have hbx := hgr.heap HB0.out
    have x0 := blk_cell hbx 0
    have x1 := blk_cell hbx 1
    have x2 := blk_cell hbx 2
    simp at x0 x1 x2
    have HGR := Lib.hid hgr
    have HANY := Lib.hid hany
    have HBI := Lib.hid hbI
    by_cases e : j < n
    · have hjl : j < S.length := by rw [HN.out]; exact e
      obtain ⟨b, cap, hsv, _, _, hCb, hbW, hat⟩ := (OwnR.gr HR0.out hgr).at' (by rw [List.length_map]; omega)
      simp only [Value.slice.injEq] at hsv
      obtain ⟨rfl, _, rfl⟩ := hsv
      have hsj : (S.map Srv.cs)[j]? = some (Srv.cs S[j]) := by simp [hjl]
      have y0 := hat j 0 _ _ hsj rfl
      have y1 := hat j 1 _ _ hsj rfl
      have y2 := hat j 2 _ _ hsj rfl
      have ht : (S.take (j + 1)).any (srvSame x) = ((S.take j).any (srvSame x) || srvSame x S[j]) := by rw [List.take_succ_eq_append_getElem hjl, List.any_append]; simp
      have ha : srvSame x S[j] = true → S.any (srvSame x) = true := fun h => List.any_eq_true.2 ⟨S[j], List.getElem_mem hjl, h⟩
      have hgj := good_parts (HS.out S[j] (List.getElem_mem hjl))
      have hgx := good_parts HX.out
      generalize S[j] = y at *
      have HE := fun w c11 c12 c21 c22 => Lib.hid (isEqualAt H b (j * 3) x.a y.a x.n y.n hgx.1 hgj.1 hgx.2 hgj.2 w c11 c12 c21 c22)
      rw [hS1] at HE
      rw [show srvEq x.a x.n y.a y.n = srvSame x y from rfl] at HE
      generalize bs y.a = S2 at *
      generalize srvSame x y = q at *
      have HT := Lib.hid ht
      have HAA := Lib.hid ha
      clear hgr hany hbI hbx hat hsj ht ha hgj hgx
      cases q
      · go_wp2_with (first
          | (go_at_call 36; go_must (refine (HE _ x1 x2 y1 y2).out.mono ?_); rintro e w2 ⟨rfl, hg2⟩))
        go_roundw
        case rel => exact ⟨j + 1, by go_num, by omega, by rw [HT.out, HANY.out]; rfl, HGR.out.trans hg2⟩
        case measure => simp [intOf]; omega
      · have hs : addS S x = S := by unfold addS; rw [if_pos (HAA.out rfl)]
        go_wp2_with (first
          | (go_at_call 36; go_must (refine (HE _ x1 x2 y1 y2).out.mono ?_); rintro e w2 ⟨rfl, hg2⟩))
        rw [hs]
        have hg := HG0.out.trans (HGR.out.trans hg2)
        exact bodyPost_ret (v := .tuple #[]) (by simp [results, Tryd.results31, go_sem]) rfl ⟨rfl, _, ⟨hg.heap HIN.out.blk, OwnR.gr HIN.out.row hg⟩, ⟨Below.mono hg (by omega), fun k o ho _ _ => hg.heap ho⟩⟩
    · obtain rfl : n = j := by omega
      have hs : addS S x = S ++ [x] := by
        unfold addS
        have h := HANY.out
        rw [← HN.out, List.take_length] at h
        rw [h]
        rfl
      have s1 := HGR.out.size
      have hwr : H + 1 ≤ wr.heap.size := by have := HHW.out; omega
      have HZ := Lib.hid (show [Srv.cs x].flatten = [.string x.p, .string S1, .int .i64 x.n] by simp [Srv.cs, hS1])
      have HD := Lib.hid (sv_one x)
      have HRW := Lib.hid (OwnR.gr HR0.out HGR.out)
      have HWI := Lib.hid (show InfAt wr I C ⟨S, ix⟩ (.slice p n c) from ⟨HBI.out, HRW.out⟩)
      have hIw : I < wr.heap.size := by omega
      have hHw : H < wr.heap.size := by omega
      have HGW := Lib.hid (HG0.out.trans HGR.out)
      have HSS := Lib.hid hs
      clear hgr hbI hbx hany hs
      go_wp2
      go_region_law (refine step_append_row rfl (.tmp 25) (.tmp 27) (by rfl) Tryd.underlying51 saInfo rfl (by decide) (by decide) (B := C) (by rfl) (OwnR.gr HRW.out (by first | exact ((Gr.refl wr).drew).alloc _ | exact ((Gr.refl wr).alloc _).drew)) [Srv.cs x] HD.out ⟨wr.heap.size, 0, none⟩ 1 1 (by rfl) rfl (cells_new (by simp) HZ.out) (by rw [List.length_map]; have := HN.out; omega) (by simp; omega) ?_; go_must (intro v5 w5 ho5 hg5; have hb5 := add_blk' HWI.out hg5 (by first | exact ((Gr.refl wr).drew).alloc _ | exact ((Gr.refl wr).alloc _).drew)); have f5 := blk_free hb5 2; have c5 := blk_cell hb5 2; simp [infoC] at c5; obtain ⟨pv, cv, rfl, _⟩ := ho5.shape; have HO5 := Lib.hid ho5; have HG5 := Lib.hid hg5; clear ho5 hg5 hb5)
      all_goals
        have ho5 := HO5.out
        simp only [List.length_append, List.length_map, List.length_cons, List.length_nil, Nat.zero_add] at ho5
        obtain ⟨h1, h2⟩ := add_end HIN.out hC (by omega) (HGW.out.trans (by first | exact ((Gr.refl wr).drew).alloc _ | exact ((Gr.refl wr).alloc _).drew)) ho5 HG5.out
        rw [HSS.out]
        exact bodyPost_end (v := .tuple #[]) (by simp [results, Tryd.results31, go_sem]) rfl ⟨rfl, _, h1, h2⟩
end Go.Proofs.YtkonfcgdokabaaaDoor
