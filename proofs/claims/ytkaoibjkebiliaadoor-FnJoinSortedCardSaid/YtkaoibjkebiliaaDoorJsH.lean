/- The sizes of rows; are there few rows, with fit names and notes. -/
import Derived.Test.YtkaoibjkebiliaaDoorJsG
import Derived.Shelf.Unicode.ValidAny
import Derived.Lib.LaidU8T
import Derived.PinnedBridge
import Derived.LaidSub
import Derived.MakeChecks
namespace Go.Proofs.YtkaoibjkebiliaaDoor
open Go Go.RowKit Go.Sort Go.ChangeShapes

def Tab8 (w : World) : Prop := Lib.Utf8Tabs (Tryd.lValid_ren.g 3) (Tryd.lValid_ren.g 4) w
theorem Tab8.gr {w w' : World} (h : Tab8 w) (g : Gr w w') : Tab8 w' := Utf8Tabs_below h g
theorem tab8_of {l : List (String × DataW Unit)} (e1 : l.filter (fun x => x.1 == "unicode/utf8.first") = [("unicode/utf8.first", Pinned.utf8First)]) (e2 : l.filter (fun x => x.1 == "unicode/utf8.acceptRanges") = [("unicode/utf8.acceptRanges", Lib.acceptData)]) {W : World} (h : laidMetH Tryd.prog l W) : Tab8 W := by
  have h1 := laidMetH.filter (fun x => x.1 == "unicode/utf8.first") h
  have h2 := laidMetH.filter (fun x => x.1 == "unicode/utf8.acceptRanges") h
  rw [e1, Pinned.utf8First_eq, MakeChecks.laidMetH_plain _ _ _ (by kernel_rfl)] at h1
  rw [e2, MakeChecks.laidMetH_plain _ _ _ (by kernel_rfl)] at h2
  exact utf8Tabs_of_readsT (U8Types.of196 Tryd.lValid) ⟨by kernel_rfl, by kernel_rfl, by kernel_rfl, by kernel_rfl, by kernel_rfl, by kernel_rfl, by kernel_rfl⟩ (Lib.laidMet.reads h1 (.head _)) (Lib.laidMet.reads h2 (.head _))
theorem valid (s : ByteArray) (w : World) (hs : s.size ≤ 9223372036854775807) (ht : Tab8 w) :
    Calls Tryd.prog 24 #[.string s] w fun e w' => e = .returned (.bool (Lib.validD s.data.toList)) ∧ Gr w w' :=
  Any.utf8_ValidString Tryd.lValid s w hs ht

/-- Are a row's name and note no longer than a length may be; are they short, and is the name text. -/
def Jr.fit (x : Jr) : Bool := !decide ((2147483647 : Int) < (x.nm.size : Int)) && !decide ((2147483647 : Int) < (x.no.length : Int))
def Jr.few (x : Jr) : Bool := !decide ((100 : Int) < (x.nm.size : Int)) && (!decide ((600 : Int) < (x.no.length : Int)) && Lib.validD x.nm.data.toList)

theorem zfit (x : Jr) (w : World) (h : Rd w x.nv x.no) (W : World) : Calls Tryd.prog 23 #[x.val] W fun e w' => e = .returned (.bool x.fit) ∧ Gr W w' := by
  unfold Jr.val Jr.cs Jr.fit
  obtain ⟨X, xa, xm, xv, xo, xf⟩ := x
  simp only at h ⊢
  obtain ⟨p1, c1, rfl, h1, h2, _⟩ := h
  have h3 : c1 ≤ 9223372036854775807 := by simp only [maxLen] at h2; omega
  generalize xo.length = n1 at *
  clear h2
  go_enter Tryd.func23, Tryd.ntmps23
  go_wp2
  all_goals (go_ret; exact ⟨by simp_all, (Gr.refl W).alloc _⟩)

set_option maxRecDepth 100000 in
set_option maxHeartbeats 1000000 in
theorem zfits7 (v : Value) (l : List Jr) (w : World) (h : RdJ w v l) :
    Calls Tryd.prog 5 #[v] w fun e w' => e = .returned (.bool (decide (l.length ≤ 2147483647) && l.all Jr.fit)) ∧ Gr w w' := by
  obtain ⟨p, c, rfl, hlc, hcm, hcells⟩ := h
  obtain ⟨n, hn⟩ : ∃ n, l.length = n := ⟨_, rfl⟩
  have hcm2 : c ≤ 9223372036854775807 := by simp only [maxLen] at hcm; omega
  have HN := Lib.hid hn
  have HC := Lib.hid hcells
  have hlen : (decide (l.length ≤ 2147483647)) = !decide ((2147483647 : Int) < (n : Int)) := by
    rw [hn]; by_cases h : n ≤ 2147483647 <;> simp [h] <;> omega
  rw [hlen]
  rw [hn] at hlc
  rw [hn]
  clear hn hcells hcm hlen
  by_cases h100 : (2147483647 : Int) < (n : Int)
  · rw [decide_eq_true h100]
    go_enter Tryd.func5, Tryd.ntmps5
    go_wp2
    go_ret
    exact ⟨rfl, Gr.refl _⟩
  rw [decide_eq_false h100]
  go_enter Tryd.func5, Tryd.ntmps5
  go_wp2
  go_loopw [10] (fun i wr => ∃ k : Nat, i = .int .i64 k ∧ k ≤ n ∧ (l.take k).all Jr.fit = true ∧ Gr w wr) (fun i _ => ((n : Int) - intOf i).toNat)
  case atStart => exact ⟨0, rfl, Nat.zero_le _, by simp, Gr.refl _⟩
  case round =>
    obtain ⟨k, rfl, hk, hall, hgr⟩ := hrel
    by_cases hkn : k < n
    · have hkX : k < l.length := by rw [HN.out]; exact hkn
      obtain ⟨b, o, rfl, hc⟩ := HC.out (by rw [HN.out]; omega)
      obtain ⟨cx, hrd⟩ := (hc k hkX).gr hgr
      have ht : (l.take (k + 1)).all Jr.fit = ((l.take k).all Jr.fit && l[k].fit) := by
        rw [List.take_succ_eq_append_getElem hkX, List.all_append]
        simp
      have hd : l.all Jr.fit = true → l[k].fit = true := fun h => List.all_eq_true.1 h l[k] (List.getElem_mem hkX)
      have HT := Lib.hid ht
      have HA := Lib.hid hall
      have HD := Lib.hid hd
      have HGR := Lib.hid hgr
      generalize l[k] = x at *
      have HF := fun W => Lib.hid (zfit x wr hrd W)
      unfold Jr.val Jr.cs at HF
      obtain ⟨q, hq⟩ : ∃ q, x.fit = q := ⟨_, rfl⟩
      rw [hq] at HF
      have HQ := Lib.hid hq
      obtain ⟨X, xa, xm, xv, xo, xf⟩ := x
      simp only at hrd HF
      obtain ⟨p1, c1, rfl, _⟩ := hrd
      generalize hxo : xo.length = n1 at *
      have a0 : wr.cell? ⟨b, o + k * 5, none⟩ = some (.int .i64 X) := by simpa using cx 0 _ rfl
      have a1 : wr.cell? ⟨b, o + k * 5 + 1, none⟩ = some (.int .i64 xa) := by simpa using cx 1 _ rfl
      have a2 : wr.cell? ⟨b, o + k * 5 + 2, none⟩ = some (.string xm) := by simpa using cx 2 _ rfl
      have a3 : wr.cell? ⟨b, o + k * 5 + 3, none⟩ = some (.slice p1 n1 c1) := by simpa using cx 3 _ rfl
      have a4 : wr.cell? ⟨b, o + k * 5 + 4, none⟩ = some (.int .u8 xf) := by simpa using cx 4 _ rfl
      clear ht hall hd hgr hq hc cx hxo
      cases q
      · have e : l.all Jr.fit = false := by
          cases h : l.all Jr.fit with
          | false => rfl
          | true => have := HD.out h; rw [HQ.out] at this; cases this
        go_wp2_with (first
          | (go_at_call 23; go_must (with_reducible refine (HF _).out.mono ?_); rintro e w2 ⟨rfl, hg2⟩))
        go_ret
        exact ⟨by rw [e]; rfl, (HGR.out.alloc _).trans hg2⟩
      · go_wp2_with (first
          | (go_at_call 23; go_must (with_reducible refine (HF _).out.mono ?_); rintro e w2 ⟨rfl, hg2⟩))
        go_roundw
        case rel => exact ⟨k + 1, by go_num, by omega, by rw [HT.out, HA.out, HQ.out]; rfl, (HGR.out.alloc _).trans hg2⟩
        case measure => first | (simp [intOf]; done) | (simp [intOf]; omega)
    · obtain rfl : n = k := by omega
      have e : l.all Jr.fit = true := by rw [← hall, ← HN.out, List.take_length]
      clear hall
      go_wp2
      go_ret
      exact ⟨by rw [e]; rfl, hgr⟩

set_option maxRecDepth 100000 in
set_option maxHeartbeats 2000000 in
theorem joinFew (v : Value) (l : List Jr) (w : World) (h : RdJ w v l) (hfit : ∀ x ∈ l, x.fit = true) (ht8 : Tab8 w) :
    Calls Tryd.prog 6 #[v] w fun e w' => e = .returned (.bool (l.all Jr.few && decide ((l.length : Int) ≤ 12))) ∧ Gr w w' := by
  obtain ⟨p, c, rfl, hlc, hcm, hcells⟩ := h
  obtain ⟨n, hn⟩ : ∃ n, l.length = n := ⟨_, rfl⟩
  have hcm2 : c ≤ 9223372036854775807 := by simp only [maxLen] at hcm; omega
  have HN := Lib.hid hn
  have HC := Lib.hid hcells
  have HT8 := Lib.hid ht8
  have HFI := Lib.hid hfit
  rw [hn] at hlc ⊢
  clear hn hcells hcm ht8 hfit
  go_enter Tryd.func6, Tryd.ntmps6
  go_wp2
  go_loopw [7] (fun i wr => ∃ k : Nat, i = .int .i64 k ∧ k ≤ n ∧ (l.take k).all Jr.few = true ∧ Gr w wr) (fun i _ => ((n : Int) - intOf i).toNat)
  case atStart => exact ⟨0, rfl, Nat.zero_le _, by simp, Gr.refl _⟩
  case round =>
    obtain ⟨k, rfl, hk, hall, hgr⟩ := hrel
    by_cases hkn : k < n
    · have hkX : k < l.length := by rw [HN.out]; exact hkn
      obtain ⟨b, o, rfl, hc⟩ := HC.out (by rw [HN.out]; omega)
      obtain ⟨cx, hrd⟩ := (hc k hkX).gr hgr
      have hfk := HFI.out l[k] (List.getElem_mem hkX)
      have ht : (l.take (k + 1)).all Jr.few = ((l.take k).all Jr.few && l[k].few) := by
        rw [List.take_succ_eq_append_getElem hkX, List.all_append]
        simp
      have hd : l.all Jr.few = true → l[k].few = true := fun h => List.all_eq_true.1 h l[k] (List.getElem_mem hkX)
      have HT := Lib.hid ht
      have HA := Lib.hid hall
      have HD := Lib.hid hd
      have HGR := Lib.hid hgr
      generalize l[k] = x at *
      obtain ⟨q, hq⟩ : ∃ q, x.few = q := ⟨_, rfl⟩
      have HQ := Lib.hid hq
      obtain ⟨X, xa, xm, xv, xo, xf⟩ := x
      unfold Jr.few at hq
      unfold Jr.fit at hfk
      simp only at hrd hq hfk
      obtain ⟨p1, c1, rfl, hn1, hm1, _⟩ := hrd
      have hm2 : c1 ≤ 9223372036854775807 := by simp only [maxLen] at hm1; omega
      have hxs : xm.size ≤ 9223372036854775807 := by
        simp only [Bool.and_eq_true, Bool.not_eq_true', decide_eq_false_iff_not] at hfk
        omega
      have HV := fun W (g : Gr wr W) => Lib.hid (valid xm W hxs (HT8.out.gr (HGR.out.trans g)))
      generalize hxo : xo.length = n1 at *
      generalize Lib.validD xm.data.toList = vd at *
      have a0 : wr.cell? ⟨b, o + k * 5, none⟩ = some (.int .i64 X) := by simpa using cx 0 _ rfl
      have a1 : wr.cell? ⟨b, o + k * 5 + 1, none⟩ = some (.int .i64 xa) := by simpa using cx 1 _ rfl
      have a2 : wr.cell? ⟨b, o + k * 5 + 2, none⟩ = some (.string xm) := by simpa using cx 2 _ rfl
      have a3 : wr.cell? ⟨b, o + k * 5 + 3, none⟩ = some (.slice p1 n1 c1) := by simpa using cx 3 _ rfl
      have a4 : wr.cell? ⟨b, o + k * 5 + 4, none⟩ = some (.int .u8 xf) := by simpa using cx 4 _ rfl
      clear ht hall hd hgr hc cx hxo hfk hm1
      have bad : q = false → l.all Jr.few = false := by
        intro e
        cases h : l.all Jr.few with
        | false => rfl
        | true => have := HD.out h; rw [HQ.out, e] at this; cases this
      have BAD := Lib.hid bad
      clear bad
      by_cases hA : (100 : Int) < (xm.size : Int)
      · have e := BAD.out (by rw [← hq, decide_eq_true hA]; rfl)
        have E := Lib.hid e
        clear e hq
        go_wp2
        go_ret
        exact ⟨by rw [E.out]; rfl, HGR.out.alloc _⟩
      · by_cases hB : (600 : Int) < (n1 : Int)
        · have e := BAD.out (by rw [← hq, decide_eq_false hA, decide_eq_true hB]; rfl)
          have E := Lib.hid e
          clear e hq
          go_wp2
          go_ret
          exact ⟨by rw [E.out]; rfl, HGR.out.alloc _⟩
        · have hqv : q = vd := by rw [← hq, decide_eq_false hA, decide_eq_false hB]; rfl
          subst hqv
          clear hq
          cases q
          · have E := Lib.hid (BAD.out rfl)
            go_wp2_with (first
              | (go_at_call 24; go_must (refine (HV _ ((Gr.refl _).alloc _)).out.mono ?_); rintro e w2 ⟨rfl, hg2⟩))
            go_ret
            exact ⟨by rw [E.out]; rfl, (HGR.out.alloc _).trans hg2⟩
          · go_wp2_with (first
              | (go_at_call 24; go_must (refine (HV _ ((Gr.refl _).alloc _)).out.mono ?_); rintro e w2 ⟨rfl, hg2⟩))
            go_roundw
            case rel => exact ⟨k + 1, by go_num, by omega, by rw [HT.out, HA.out, HQ.out]; rfl, (HGR.out.alloc _).trans hg2⟩
            case measure => first | (simp [intOf]; done) | (simp [intOf]; omega)
    · obtain rfl : n = k := by omega
      have e : l.all Jr.few = true := by rw [← hall, ← HN.out, List.take_length]
      have E := Lib.hid e
      clear hall e
      go_wp2
      go_ret
      exact ⟨by rw [E.out]; simp, hgr⟩
end Go.Proofs.YtkaoibjkebiliaaDoor
