/- Steps on servers, what they give; the laws' configAdds. -/
import Derived.Test.YtkonfcgdokabaaaDoorCfQ
namespace Go.Proofs.YtkonfcgdokabaaaDoor
open Go Go.RowKit

/-- A step: its kind and its server. -/
structure Stp where
  k : Int
  s : Srv
def Stp.cs (x : Stp) : List Value := .int .i64 x.k :: x.s.cs
def noSrv : Srv := ⟨⟨#[]⟩, [], 0⟩
/-- Is a server that is to be added equal to one that is there. -/
def srvSame (x y : Srv) : Bool := srvEq x.a x.n y.a y.n
def addS (S : List Srv) (x : Srv) : List Srv := if S.any (srvSame x) then S else S ++ [x]
/-- Servers and the place of the one that is active. -/
structure Inf where
  S : List Srv
  ix : Nat
def Inf.go (i : Inf) (x : Stp) : Inf :=
  if x.k = 0 then ⟨addS i.S x.s, i.ix⟩ else if x.k = 2 then ⟨i.S, i.ix + 1⟩ else if x.k = 3 then ⟨i.S, 0⟩ else i
/-- The server that a step gives. -/
def Inf.got (i : Inf) (x : Stp) : Option Srv := if x.k = 1 then i.S[i.ix]? else if x.k = 2 then i.S[i.ix + 1]? else none
def Inf.all (i : Inf) : List Stp → Inf
  | [] => i
  | x :: l => Inf.all (i.go x) l
def Inf.gots (i : Inf) : List Stp → List (Option Srv)
  | [] => []
  | x :: l => i.got x :: Inf.gots (i.go x) l
theorem Inf.all_append (l m : List Stp) : ∀ i : Inf, i.all (l ++ m) = (i.all l).all m := by
  induction l with
  | nil => intro i; rfl
  | cons x l ih => intro i; exact ih _
theorem Inf.gots_append (l m : List Stp) : ∀ i : Inf, i.gots (l ++ m) = i.gots l ++ (i.all l).gots m := by
  induction l with
  | nil => intro i; rfl
  | cons x l ih => intro i; simp only [List.cons_append, Inf.gots, Inf.all, ih]
theorem Inf.gots_len (l : List Stp) : ∀ i : Inf, (i.gots l).length = l.length := by
  induction l with
  | nil => intro i; rfl
  | cons x l ih => intro i; simp only [Inf.gots, List.length_cons, ih]

theorem stpInfo : (Tryd.prog.info? 32).map (fun i => (i.zero, i.size, i.bytes)) = some (some (.agg #[.int .i64 0, .string ⟨#[]⟩, .string ⟨#[]⟩, .int .i64 0]), 4, 48) := by kernel_rfl
theorem svInfo : (Tryd.prog.info? 26).map (fun i => (i.zero, i.size, i.bytes)) = some (some (.agg #[.string ⟨#[]⟩, .string ⟨#[]⟩, .int .i64 0]), 3, 40) := by kernel_rfl
theorem saInfo : (Tryd.prog.info? 58).map (fun i => (i.zero, i.size, i.bytes)) = some (some (.agg #[.string ⟨#[]⟩, .string ⟨#[]⟩, .int .i64 0]), 3, 40) := by kernel_rfl
theorem boolInfo : (Tryd.prog.info? 4).map (fun i => (i.zero, i.size, i.bytes)) = some (some (.bool false), 1, 1) := by kernel_rfl
theorem cells_new {W : World} {arr : Array Value} {T : TypeId} {H : Nat} {ds : List Value} (hH : W.heap.size = H) (hz : ds = arr.toList) : ∀ j u, ds[j]? = some u → (W.alloc (.cells arr T)).cell? ((⟨H, 0, none⟩ : Addr).add j) = some u := by
  intro j u hj
  subst hH
  rw [Lib.addr_add, Nat.zero_add, blk_cell (heap_alloc_new W _), ← Array.getElem?_toList, ← hz]
  exact hj
theorem sv_one (x : Srv) : ∀ c ∈ [x.cs], c.length = 3 ∧ ∀ u ∈ c, u.oneCell' = true := by
  intro c hc
  simp only [List.mem_singleton] at hc
  subst hc
  refine ⟨rfl, fun u hu => ?_⟩
  simp only [Srv.cs, List.mem_cons, List.not_mem_nil, or_false] at hu
  rcases hu with rfl | rfl | rfl <;> rfl
theorem stp_one (x : Stp) : ∀ c ∈ [x.cs], c.length = 4 ∧ ∀ u ∈ c, u.oneCell' = true := by
  intro c hc
  simp only [List.mem_singleton] at hc
  subst hc
  refine ⟨rfl, fun u hu => ?_⟩
  simp only [Stp.cs, Srv.cs, List.mem_cons, List.not_mem_nil, or_false] at hu
  rcases hu with rfl | rfl | rfl | rfl <;> rfl

theorem plainServer (p a : ByteArray) (n : Int) (w : World) :
    Calls Tryd.prog 35 #[.agg #[.string p, .string a, .int .i64 n]] w fun e w' => e = .returned (.agg #[.string p, .string a, .int .i64 n]) ∧ Gr w w' := by
  go_enter Tryd.func35, Tryd.ntmps35
  go_wp2
  have zz : ∀ i v, (#[.string p, .string a, .int .i64 n] : Array Value)[i]? = some v → ((w.alloc (.cells #[.string p, .string a, .int .i64 n] 58)).alloc (.cells #[.string p, .string a, .int .i64 n] 26)).cell? ⟨w.heap.size + 1, i, none⟩ = some v := fun i v h => (blk_cell (heap_new_at (w.alloc (.cells #[.string p, .string a, .int .i64 n] 58)) _ (by simp)) i).trans h
  have z0 := zz 0 _ rfl
  have z1 := zz 1 _ rfl
  have z2 := zz 2 _ rfl
  exact bodyPost_ret (v := .agg #[.string p, .string a, .int .i64 n]) (by simp [results, Tryd.results35, go_sem, z0, z1, z2]) rfl ⟨rfl, ((Gr.refl w).alloc _).alloc _⟩

def RetStps (w : World) (l : List Stp) (e : Ending) (w' : World) : Prop := ∃ u, e = .returned u ∧ OwnR 32 4 w.heap.size w' u (l.map Stp.cs) ∧ Gr w w'

set_option maxRecDepth 100000 in
set_option maxHeartbeats 4000000 in
theorem configAdds (v : Value) (l : List Srv) (w : World) (h : RdSv w v l) (hl : l.length ≤ 100) :
    Calls Tryd.prog 16 #[v] w (RetStps w (l.map (Stp.mk 0))) := by
  obtain ⟨p, c, rfl, hlc, hcm, hcells⟩ := h
  obtain ⟨n, hn⟩ : ∃ n, l.length = n := ⟨_, rfl⟩
  have hcm2 : c ≤ 9223372036854775807 := by simp only [maxLen] at hcm; omega
  have HN := Lib.hid hn
  have HC := Lib.hid hcells
  rw [hn] at hlc hl ⊢
  clear hn hcells hcm
  go_enter Tryd.func16, Tryd.ntmps16
  go_wp2
  go_loopw [8, 3] (fun i ov wr => ∃ j : Nat, i = .int .i64 j ∧ j ≤ n ∧ OwnR 32 4 w.heap.size wr ov (((l.take j).map (Stp.mk 0)).map Stp.cs) ∧ Gr w wr) (fun i _ _ => ((n : Int) - intOf i).toNat)
  case atStart => exact ⟨0, rfl, Nat.zero_le _, OwnR.nil _ _ _ _, Gr.refl _⟩
  case round =>
    obtain ⟨j, rfl, hj, hown, hgr⟩ := hrel
    by_cases e : j < n
    · obtain ⟨b, o, rfl, hc⟩ := HC.out (by rw [HN.out]; omega)
      have hjl : j < l.length := by rw [HN.out]; exact e
      obtain ⟨c0, c1, c2⟩ := (hc j hjl).gr hgr
      have hsn : ((l.take (j + 1)).map (Stp.mk 0)).map Stp.cs = ((l.take j).map (Stp.mk 0)).map Stp.cs ++ [Stp.cs ⟨0, l[j]⟩] := by rw [List.take_succ_eq_append_getElem hjl, List.map_append, List.map_append]; rfl
      have htk : (((l.take j).map (Stp.mk 0)).map Stp.cs).length ≤ 100 := by rw [List.length_map, List.length_map, List.length_take]; omega
      generalize l[j] = x at *
      have HZ := Lib.hid (show [Stp.cs ⟨0, x⟩].flatten = [.int .i64 0, .string x.p, .string (bs x.a), .int .i64 x.n] by simp [Stp.cs, Srv.cs])
      have HD := Lib.hid (stp_one ⟨0, x⟩)
      have HSN := Lib.hid hsn
      have HTK := Lib.hid htk
      have HOW := Lib.hid hown
      have HGR := Lib.hid hgr
      clear hc hjl hsn htk hown hgr
      have s0 := HGR.out.size
      go_wp2_with (first
        | (at_builtin; go_must (refine wpList_append_row rfl _ _ rfl Tryd.underlying30 stpInfo rfl (by decide) (by decide) (B := w.heap.size) rfl (OwnR.gr HOW.out (((Gr.refl wr).alloc _).alloc _)) [Stp.cs ⟨0, x⟩] HD.out ⟨wr.heap.size + 1, 0, none⟩ 1 1 rfl rfl (cells_new (by simp) HZ.out) (by have := HTK.out; omega) (by simp; omega) ?_); intro v5 w5 ho5 hg5; have HG5 := Lib.hid (Below.trans ((HGR.out.alloc _).alloc _) ((OwnR.gr HOW.out (((Gr.refl wr).alloc _).alloc _)).below hg5 (by simp; omega))); have HO5 := Lib.hid ho5; clear ho5 hg5))
      go_roundw
      case rel => exact ⟨j + 1, by go_num, by omega, by rw [HSN.out]; exact HO5.out, HG5.out⟩
      case measure => simp [intOf]; omega
    · obtain rfl : n = j := by omega
      have e : (l.take n) = l := by rw [← HN.out, List.take_length]
      rw [e] at hown
      clear e
      have HOW := Lib.hid hown
      have HGR := Lib.hid hgr
      obtain ⟨po, co, rfl, _⟩ := hown.shape
      clear hown hgr
      go_wp2
      go_ret
      exact ⟨_, rfl, HOW.out, HGR.out⟩
end Go.Proofs.YtkonfcgdokabaaaDoor
