/- laws.configServers. -/
import Derived.Test.YtkonfcgdokabaaaDoorCfU
namespace Go.Proofs.YtkonfcgdokabaaaDoor
open Go Go.RowKit

/-- A server: its protocol, its address, its port. -/
structure Srv where
  p : ByteArray
  a : List UInt8
  n : Int
def Srv.val (s : Srv) : Value := .agg #[.string s.p, .string (bs s.a), .int .i64 s.n]
/-- Servers in a row of block b. -/
structure SrvAt (w : World) (b : Nat) (l : List Srv) : Prop where
  p : ∀ j (hj : j < l.length), w.cell? ⟨b, j * 3, none⟩ = some (.string l[j].p)
  a : ∀ j (hj : j < l.length), w.cell? ⟨b, j * 3 + 1, none⟩ = some (.string (bs l[j].a))
  n : ∀ j (hj : j < l.length), w.cell? ⟨b, j * 3 + 2, none⟩ = some (.int .i64 l[j].n)
theorem SrvAt.gr {w w' : World} {b : Nat} {l : List Srv} (h : SrvAt w b l) (g : Gr w w') : SrvAt w' b l :=
  ⟨fun j hj => g.cell (h.p j hj), fun j hj => g.cell (h.a j hj), fun j hj => g.cell (h.n j hj)⟩
def Srv.short (s : Srv) : Bool := [bs s.a, s.p].all fun x => decide (x.size ≤ 300)
def Srv.plain (s : Srv) : Bool := s.a.all fun b => decide (b.toNat < 128)
def Srv.good (s : Srv) : Bool := s.short && s.plain
theorem Srv.short_len {s : Srv} (h : s.short = true) : s.a.length ≤ 300 := by
  have := List.all_eq_true.1 h (bs s.a) (by simp)
  rw [bs_size] at this
  simpa using this
def srvOk (l : List Srv) : Bool := decide (l.length ≤ 100) && l.all Srv.good

set_option maxRecDepth 100000 in
set_option maxHeartbeats 1000000 in
theorem serversC (b n c : Nat) (l : List Srv) (w : World) (hn : l.length = n) (hc : n ≤ c) (hm : c ≤ 9223372036854775807) (ha : ∀ s ∈ l, s.a.length ≤ 4000000000) (hx : SrvAt w b l) :
    Calls Tryd.prog 9 #[.slice (some ⟨b, 0, none⟩) n c] w fun e w' => e = .returned (.bool (srvOk l)) ∧ Gr w w' := by
  have HX := Lib.hid hx
  have HN := Lib.hid hn
  have HAL := Lib.hid ha
  have hlen : (decide (l.length ≤ 100)) = !decide ((100 : Int) < (n : Int)) := by
    rw [hn]; by_cases h : n ≤ 100 <;> simp [h] <;> omega
  unfold srvOk
  rw [hlen]
  clear hx hn ha hlen
  by_cases h100 : (100 : Int) < (n : Int)
  · rw [decide_eq_true h100]
    go_enter Tryd.func9, Tryd.ntmps9
    go_wp2
    go_ret
    exact ⟨rfl, Gr.refl _⟩
  rw [decide_eq_false h100]
  go_enter Tryd.func9, Tryd.ntmps9
  go_wp2
  go_loopw [10] (fun i wr => ∃ k : Nat, i = .int .i64 k ∧ k ≤ n ∧ (l.take k).all Srv.good = true ∧ Gr w wr) (fun i _ => ((n : Int) - intOf i).toNat)
  case atStart => exact ⟨0, rfl, Nat.zero_le _, by simp, Gr.refl _⟩
  case round =>
    obtain ⟨k, rfl, hk, hall, hgr⟩ := hrel
    by_cases hkn : k < n
    · have hkX : k < l.length := by rw [HN.out]; exact hkn
      have k0 := hgr.cell (HX.out.p k hkX)
      have k1 := hgr.cell (HX.out.a k hkX)
      have k2 := hgr.cell (HX.out.n k hkX)
      have ht : (l.take (k + 1)).all Srv.good = ((l.take k).all Srv.good && l[k].good) := by
        rw [List.take_succ_eq_append_getElem hkX, List.all_append]
        simp
      have hd : l.all Srv.good = true → l[k].good = true := fun h => List.all_eq_true.1 h l[k] (List.getElem_mem hkX)
      have hla := HAL.out l[k] (List.getElem_mem hkX)
      have HT := Lib.hid ht
      have HA := Lib.hid hall
      have HD := Lib.hid hd
      have HGR := Lib.hid hgr
      generalize l[k] = s at *
      obtain ⟨p, a, m⟩ := s
      have HSH := fun b w hx => Lib.hid (shortC b 2 2 [bs a, p] w rfl (by omega) (by omega) hx)
      have HPL := fun w => Lib.hid (plainC a hla w)
      have hg : Srv.good ⟨p, a, m⟩ = ((([bs a, p].all fun x => decide (x.size ≤ 300))) && a.all fun b => decide (b.toNat < 128)) := rfl
      have HGD := Lib.hid hg
      simp only at k0 k1 k2
      generalize ([bs a, p].all fun x => decide (x.size ≤ 300)) = sh at *
      generalize (a.all fun b => decide (b.toNat < 128)) = pl at *
      generalize hS : bs a = S at *
      clear ht hall hd hgr hg hla hS
      have hst : ∀ (w : World) T B, B = w.heap.size → StrAt (w.alloc (.cells #[.string S, .string p] T)) B [S, p] := fun w T B hB j hj => by
        have hj : j < 2 := hj
        match j, hj with
        | 0, _ => exact (blk_cell (heap_new_at w _ hB) 0).trans rfl
        | 1, _ => exact (blk_cell (heap_new_at w _ hB) 1).trans rfl
      cases sh
      · have e : l.all Srv.good = false := by
          cases h : l.all Srv.good with
          | false => rfl
          | true => have := HD.out h; rw [HGD.out] at this; cases this
        go_wp2_with (first
          | (go_at_call 20; go_must (with_reducible refine (HSH _ _ (hst (wr.alloc _) _ _ (by simp))).out.mono ?_); rintro e w2 ⟨rfl, rfl⟩))
        go_ret
        exact ⟨by rw [e]; rfl, (HGR.out.alloc _).alloc _⟩
      · cases pl
        · have e : l.all Srv.good = false := by
            cases h : l.all Srv.good with
            | false => rfl
            | true => have := HD.out h; rw [HGD.out] at this; cases this
          go_wp2_with (first
            | (go_at_call 20; go_must (with_reducible refine (HSH _ _ (hst (wr.alloc _) _ _ (by simp))).out.mono ?_); rintro e w2 ⟨rfl, rfl⟩)
            | (go_at_call 27; go_must (with_reducible refine (HPL _).out.mono ?_); rintro e w3 ⟨rfl, hg3⟩))
          go_ret
          exact ⟨by rw [e]; rfl, ((HGR.out.alloc _).alloc _).trans hg3⟩
        · go_wp2_with (first
            | (go_at_call 20; go_must (with_reducible refine (HSH _ _ (hst (wr.alloc _) _ _ (by simp))).out.mono ?_); rintro e w2 ⟨rfl, rfl⟩)
            | (go_at_call 27; go_must (with_reducible refine (HPL _).out.mono ?_); rintro e w3 ⟨rfl, hg3⟩))
          go_roundw
          case rel => exact ⟨k + 1, by go_num, by omega, by rw [HT.out, HA.out, HGD.out]; rfl, ((HGR.out.alloc _).alloc _).trans hg3⟩
          case measure => first | (simp [intOf]; done) | (simp [intOf]; omega)
    · obtain rfl : n = k := by omega
      have e : l.all Srv.good = true := by rw [← hall, ← HN.out, List.take_length]
      clear hall
      go_wp2
      go_ret
      exact ⟨by rw [e]; rfl, hgr⟩
end Go.Proofs.YtkonfcgdokabaaaDoor
