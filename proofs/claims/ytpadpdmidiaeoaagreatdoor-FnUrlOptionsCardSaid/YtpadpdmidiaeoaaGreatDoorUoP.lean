/- impl.Url with options. -/
import Derived.Test.YtpadpdmidiaeoaaGreatDoorUoN
namespace Go.Proofs.YtpadpdmidiaeoaaGreatDoor
open Go Go.RowKit Go.Lib

theorem options00 (p : Option Addr) (c : Nat) (w : World) : Calls Tryz.prog 24 #[.slice p 0 c] w fun e w' => e = .returned (.map none) ∧ w' = w := by
  go_enter Tryz.func24, Tryz.ntmps24
  go_wp2
  go_ret
  exact ⟨rfl, rfl⟩

theorem implUrl0 (server service user pw : List UInt8) (n : Int) (p : Option Addr) (c : Nat) (hn0 : 0 ≤ n) (hn1 : n ≤ 65535) (h1 : server.length ≤ 1000000) (h2 : service.length ≤ 1000000) (h3 : user.length ≤ 1000000) (h4 : pw.length ≤ 1000000) (w : World) (hu : TabU w) (ht : Tab10 w) :
    Calls Tryz.prog 13 #[.string (bs server), .int .i64 n, .string (bs service), .string (bs user), .string (bs pw), .slice p 0 c] w
      fun e w' => e = .returned (.string (bs (urlL server (Lib.itoa n) service user pw))) ∧ Gr w w' := by
  have HB := Lib.hid (buildUrl server service user pw n hn0 hn1 h1 h2 h3 h4 w hu ht)
  clear hn0 hn1 h1 h2 h3 h4 hu ht
  go_enter Tryz.func13, Tryz.ntmps13
  go_wp2_with (first
    | (go_at_call 24; go_must (refine (options00 p c _).mono ?_); rintro e w1 ⟨rfl, hw⟩; obtain rfl := hw.symm)
    | (go_at_call 23; go_must (refine HB.out.mono ?_); rintro e w2 ⟨rfl, hg2⟩))
  go_ret
  exact ⟨rfl, hg2⟩

theorem implUrlO (server service user pw : List UInt8) (n : Int) (hn0 : 0 ≤ n) (hn1 : n ≤ 65535) (h1 : server.length ≤ 1000) (h2 : service.length ≤ 1000) (h3 : user.length ≤ 1000) (h4 : pw.length ≤ 1000)
    (v : Value) (l : List Op) (hl0 : l ≠ []) (hl20 : l.length ≤ 20) (hnd : (l.map Op.n).Nodup) (hok : ∀ x ∈ l, OkO x) (hamp : ∀ t ∈ optsL l, (38 : UInt8) ∉ t) (w : World) (hv : RdO w v l) (hu : TabU w) (ht : Tab10 w) (hs : TabS w) :
    Calls Tryz.prog 13 #[.string (bs server), .int .i64 n, .string (bs service), .string (bs user), .string (bs pw), v] w
      fun e w' => (∃ l', l'.Perm l ∧ e = .returned (.string (bs (urlL server (Lib.itoa n) service user pw ++ 63 :: midL (optsL l'))))) ∧ Gr w w' := by
  have HO := Lib.hid (options v l w hv (List.length_pos_iff.2 hl0) hl20 (fun x hx => ⟨by have := (hok x hx).n; omega, by have := (hok x hx).v; omega⟩))
  have HB := fun W b hu ht hs hown => Lib.hid (buildUrlO server service user pw n hn0 hn1 h1 h2 h3 h4 l b hl0 hl20 hnd hok hamp W hu ht hs hown)
  have HU := Lib.hid hu
  have HT := Lib.hid ht
  have HS := Lib.hid hs
  obtain ⟨p, c, rfl, _⟩ := hv
  clear hn0 hn1 h1 h2 h3 h4 hl0 hl20 hnd hok hamp hu ht hs
  go_enter Tryz.func13, Tryz.ntmps13
  go_wp2_with (first
    | (go_at_call 24; go_must (refine HO.out.mono ?_); rintro e w1 ⟨rfl, ho1, hg1⟩; have HO1 := Lib.hid ho1; have HG1 := Lib.hid hg1; clear ho1 hg1)
    | (go_at_call 23; go_must (refine (HB _ _ (HU.out.gr HG1.out) (HT.out.gr HG1.out) (HS.out.gr HG1.out) HO1.out).out.mono ?_); rintro e w2 ⟨⟨l', hl', rfl⟩, hg2⟩))
  go_ret
  exact ⟨⟨l', hl', rfl⟩, HG1.out.trans hg2⟩
end Go.Proofs.YtpadpdmidiaeoaaGreatDoor
