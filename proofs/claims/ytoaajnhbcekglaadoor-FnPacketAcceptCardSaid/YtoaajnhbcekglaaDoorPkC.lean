/- (*Packet).bytes: the bytes of a head. -/
import Derived.Test.YtoaajnhbcekglaaDoorPkB
import Derived.Deep.RegionWith
namespace Go.Proofs.YtoaajnhbcekglaaDoor
open Go Go.RowKit

/-- The cells of a packet's head, and of its context, that its bytes hang on. -/
structure PkCells (w : World) (b q : Nat) (off len ty fl ver : Int) (done : Bool) : Prop where
  h0 : w.cell? ⟨b, 0, none⟩ = some (.int .u16 off)
  h1 : w.cell? ⟨b, 1, none⟩ = some (.int .u32 len)
  h2 : w.cell? ⟨b, 2, none⟩ = some (.int .u8 ty)
  h3 : w.cell? ⟨b, 3, none⟩ = some (.int .u8 fl)
  h4 : w.cell? ⟨b, 4, none⟩ = some (.pointer (some ⟨q, 0, none⟩))
  hq2 : w.cell? ⟨q, 2, none⟩ = some (.int .u16 ver)
  hq9 : w.cell? ⟨q, 9, none⟩ = some (.bool done)
theorem PkCells.gr {a w : World} {b q : Nat} {off len ty fl ver : Int} {done : Bool} (h : PkCells a b q off len ty fl ver done) (g : Gr a w) : PkCells w b q off len ty fl ver done :=
  ⟨g.cell h.h0, g.cell h.h1, g.cell h.h2, g.cell h.h3, g.cell h.h4, g.cell h.hq2, g.cell h.hq9⟩

theorem ret_head {w0 w : World} {g c n : Nat} (xs ys : List Int) (hn : ys.length = n) (he : xs = ys) (h : OwnAt w g c xs) (hg : w0.heap.size ≤ g) (hr : Gr w0 w) : RetB w0 ys (.returned (.slice (some ⟨g, 0, none⟩) n c)) w := by
  subst he; subst hn
  exact ⟨_, rfl, h.own hg, hr⟩

theorem cnv16 (v : Int) : IntKind.u16.wrap v = v % 65536 := by
  rw [IntKind.wrap_u16]

theorem pkt_bytes_big_long (b q : Nat) (off len ty fl ver : Int) (done : Bool) (w : World) (hoff : 8 < off ∧ off ≤ 65535) (hlen : 0 ≤ len ∧ len < 4294967296) (hty : 0 ≤ ty ∧ ty < 256) (hfl : 0 ≤ fl ∧ fl < 256)
    (h : PkCells w b q off len ty fl ver done) (hd : done = true) (hv : 315 ≤ ver) :
    Calls Tryd.prog 41 #[.pointer (some ⟨b, 0, none⟩)] w (RetB w (headL true len ty fl off.toNat)) := by
  subst hd
  have H := h; have h0 := H.h0; have h1 := H.h1; have h2 := H.h2; have h3 := H.h3; have h4 := H.h4; have hq2 := H.hq2; have hq9 := H.hq9
  go_enter Tryd.func41, Tryd.ntmps41
  go_wp2_with (first
    | (at_make; refine wpList_make_gr u8 rfl _ _ rfl (Gr.refl w) .i64 .i64 8 8 8 rfl rfl rfl rfl (by omega) _ rfl ?_; intro w1 ho1 hg1 hg1' hb1; have H := h.gr hg1; have h0 := H.h0; have h1 := H.h1; have h2 := H.h2; have h3 := H.h3; have h4 := H.h4; have hq2 := H.hq2; have hq9 := H.hq9)
    | (at_builtin; refine wpList_zeros_gr u8 Tryd.underlying22 rfl _ _ rfl hg1' w.heap.size 8 8 _ rfl rfl ho1 .u16 (off - 8) (off.toNat - 8) (by omega) rfl (by simp; omega) (by simp; omega) ?_; intro c2 w2 ho2 hg2 hg2'; have H := h.gr hg2'; have h0 := H.h0; have h1 := H.h1; have h2 := H.h2; have h3 := H.h3; have h4 := H.h4; have hq2 := H.hq2; have hq9 := H.hq9))
  go_region_with (go_at_call 52; refine (put32 _ w1.heap.size c2 _ 0 _ _ len hlen ho2.drew (by omega) (by simp)).mono ?_; rintro e w3 ⟨rfl, ho3, hf3⟩)
  all_goals
    have hgr := hf3 w hg2'.drew hg1'.size
    have H := h.gr hgr; have h2 := H.h2; have h3 := H.h3
    have k4 := ho3.cell 4 (by simp [putAt_length])
    have k5 := ho3.cell 5 (by simp [putAt_length])
    have f4 := ho3.free 4
    have f5 := ho3.free 5
    go_wp2
    go_ret
    exact ret_head _ _ (by simp [headL, be4]; omega) rfl ((ho3.setCell 4 (by simp [putAt_length]) ty hty).setCell 5 (by simp [putAt_length]) fl hfl) hg1'.size ((hgr.setCell hg1'.size _).setCell hg1'.size _)

theorem pkt_bytes_big_undone (b q : Nat) (off len ty fl ver : Int) (done : Bool) (w : World) (hoff : 8 < off ∧ off ≤ 65535) (_hlen : 0 ≤ len ∧ len < 4294967296) (hty : 0 ≤ ty ∧ ty < 256) (hfl : 0 ≤ fl ∧ fl < 256)
    (h : PkCells w b q off len ty fl ver done) (hd : done = false) :
    Calls Tryd.prog 41 #[.pointer (some ⟨b, 0, none⟩)] w (RetB w (headL false len ty fl off.toNat)) := by
  subst hd
  have H := h; have h0 := H.h0; have h1 := H.h1; have h2 := H.h2; have h3 := H.h3; have h4 := H.h4; have hq2 := H.hq2; have hq9 := H.hq9
  go_enter Tryd.func41, Tryd.ntmps41
  go_wp2_with (first
    | (at_make; refine wpList_make_gr u8 rfl _ _ rfl (Gr.refl w) .i64 .i64 8 8 8 rfl rfl rfl rfl (by omega) _ rfl ?_; intro w1 ho1 hg1 hg1' hb1; have H := h.gr hg1; have h0 := H.h0; have h1 := H.h1; have h2 := H.h2; have h3 := H.h3; have h4 := H.h4; have hq2 := H.hq2; have hq9 := H.hq9)
    | (at_builtin; refine wpList_zeros_gr u8 Tryd.underlying22 rfl _ _ rfl hg1' w.heap.size 8 8 _ rfl rfl ho1 .u16 (off - 8) (off.toNat - 8) (by omega) rfl (by simp; omega) (by simp; omega) ?_; intro c2 w2 ho2 hg2 hg2'; have H := h.gr hg2'; have h0 := H.h0; have h1 := H.h1; have h2 := H.h2; have h3 := H.h3; have h4 := H.h4; have hq2 := H.hq2; have hq9 := H.hq9))
  go_region_with (go_at_call 53; refine (put16 _ w1.heap.size c2 _ 0 _ _ (len % 65536) (by omega) ho2.drew (by omega) (by simp)).mono ?_; rintro e w3 ⟨rfl, ho3, hf3⟩)
  all_goals
    have hgr := hf3 w hg2'.drew hg1'.size
    have H := h.gr hgr; have h2 := H.h2; have h3 := H.h3
    have k4 := ho3.cell 4 (by simp [putAt_length])
    have k5 := ho3.cell 5 (by simp [putAt_length])
    have f4 := ho3.free 4
    have f5 := ho3.free 5
    go_wp2
    go_ret
    exact ret_head _ _ (by simp [headL, be2]; omega) (by rw [headL, be2, be2]; simp [putAt]; omega) ((ho3.setCell 4 (by simp [putAt_length]) ty hty).setCell 5 (by simp [putAt_length]) fl hfl) hg1'.size ((hgr.setCell hg1'.size _).setCell hg1'.size _)

theorem pkt_bytes_big_old (b q : Nat) (off len ty fl ver : Int) (done : Bool) (w : World) (hoff : 8 < off ∧ off ≤ 65535) (_hlen : 0 ≤ len ∧ len < 4294967296) (hty : 0 ≤ ty ∧ ty < 256) (hfl : 0 ≤ fl ∧ fl < 256)
    (h : PkCells w b q off len ty fl ver done) (hd : done = true) (hv : ver < 315) :
    Calls Tryd.prog 41 #[.pointer (some ⟨b, 0, none⟩)] w (RetB w (headL false len ty fl off.toNat)) := by
  subst hd
  have H := h; have h0 := H.h0; have h1 := H.h1; have h2 := H.h2; have h3 := H.h3; have h4 := H.h4; have hq2 := H.hq2; have hq9 := H.hq9
  go_enter Tryd.func41, Tryd.ntmps41
  go_wp2_with (first
    | (at_make; refine wpList_make_gr u8 rfl _ _ rfl (Gr.refl w) .i64 .i64 8 8 8 rfl rfl rfl rfl (by omega) _ rfl ?_; intro w1 ho1 hg1 hg1' hb1; have H := h.gr hg1; have h0 := H.h0; have h1 := H.h1; have h2 := H.h2; have h3 := H.h3; have h4 := H.h4; have hq2 := H.hq2; have hq9 := H.hq9)
    | (at_builtin; refine wpList_zeros_gr u8 Tryd.underlying22 rfl _ _ rfl hg1' w.heap.size 8 8 _ rfl rfl ho1 .u16 (off - 8) (off.toNat - 8) (by omega) rfl (by simp; omega) (by simp; omega) ?_; intro c2 w2 ho2 hg2 hg2'; have H := h.gr hg2'; have h0 := H.h0; have h1 := H.h1; have h2 := H.h2; have h3 := H.h3; have h4 := H.h4; have hq2 := H.hq2; have hq9 := H.hq9))
  go_region_with (go_at_call 53; refine (put16 _ w1.heap.size c2 _ 0 _ _ (len % 65536) (by omega) ho2.drew (by omega) (by simp)).mono ?_; rintro e w3 ⟨rfl, ho3, hf3⟩)
  all_goals
    have hgr := hf3 w hg2'.drew hg1'.size
    have H := h.gr hgr; have h2 := H.h2; have h3 := H.h3
    have k4 := ho3.cell 4 (by simp [putAt_length])
    have k5 := ho3.cell 5 (by simp [putAt_length])
    have f4 := ho3.free 4
    have f5 := ho3.free 5
    go_wp2
    go_ret
    exact ret_head _ _ (by simp [headL, be2]; omega) (by rw [headL, be2, be2]; simp [putAt]; omega) ((ho3.setCell 4 (by simp [putAt_length]) ty hty).setCell 5 (by simp [putAt_length]) fl hfl) hg1'.size ((hgr.setCell hg1'.size _).setCell hg1'.size _)

theorem pkt_bytes_small_long (b q : Nat) (off len ty fl ver : Int) (done : Bool) (w : World) (hoff : 0 ≤ off ∧ off ≤ 8) (hlen : 0 ≤ len ∧ len < 4294967296) (hty : 0 ≤ ty ∧ ty < 256) (hfl : 0 ≤ fl ∧ fl < 256)
    (h : PkCells w b q off len ty fl ver done) (hd : done = true) (hv : 315 ≤ ver) :
    Calls Tryd.prog 41 #[.pointer (some ⟨b, 0, none⟩)] w (RetB w (headL true len ty fl off.toNat)) := by
  subst hd
  have H := h; have h0 := H.h0; have h1 := H.h1; have h2 := H.h2; have h3 := H.h3; have h4 := H.h4; have hq2 := H.hq2; have hq9 := H.hq9
  go_enter Tryd.func41, Tryd.ntmps41
  go_wp2_with (first
    | (at_make; refine wpList_make_gr u8 rfl _ _ rfl (Gr.refl w) .i64 .i64 8 8 8 rfl rfl rfl rfl (by omega) _ rfl ?_; intro w1 ho1 hg1 hg1' hb1; have H := h.gr hg1; have h0 := H.h0; have h1 := H.h1; have h2 := H.h2; have h3 := H.h3; have h4 := H.h4; have hq2 := H.hq2; have hq9 := H.hq9))
  go_region_with (go_at_call 52; refine (put32 _ w.heap.size 8 _ 0 _ _ len hlen ho1.drew (by omega) (by simp)).mono ?_; rintro e w3 ⟨rfl, ho3, hf3⟩)
  all_goals
    have hgr := hf3 w hg1'.drew (Nat.le_refl _)
    have H := h.gr hgr; have h2 := H.h2; have h3 := H.h3
    have k4 := ho3.cell 4 (by simp [putAt_length])
    have k5 := ho3.cell 5 (by simp [putAt_length])
    have f4 := ho3.free 4
    have f5 := ho3.free 5
    go_wp2
    go_ret
    exact ret_head _ _ (by simp [headL, be4]; omega) (by simp [headL, be4, putAt, List.replicate]; omega) ((ho3.setCell 4 (by simp [putAt_length]) ty hty).setCell 5 (by simp [putAt_length]) fl hfl) (Nat.le_refl _) ((hgr.setCell (Nat.le_refl _) _).setCell (Nat.le_refl _) _)

theorem pkt_bytes_small_undone (b q : Nat) (off len ty fl ver : Int) (done : Bool) (w : World) (hoff : 0 ≤ off ∧ off ≤ 8) (_hlen : 0 ≤ len ∧ len < 4294967296) (hty : 0 ≤ ty ∧ ty < 256) (hfl : 0 ≤ fl ∧ fl < 256)
    (h : PkCells w b q off len ty fl ver done) (hd : done = false) :
    Calls Tryd.prog 41 #[.pointer (some ⟨b, 0, none⟩)] w (RetB w (headL false len ty fl off.toNat)) := by
  subst hd
  have H := h; have h0 := H.h0; have h1 := H.h1; have h2 := H.h2; have h3 := H.h3; have h4 := H.h4; have hq2 := H.hq2; have hq9 := H.hq9
  go_enter Tryd.func41, Tryd.ntmps41
  go_wp2_with (first
    | (at_make; refine wpList_make_gr u8 rfl _ _ rfl (Gr.refl w) .i64 .i64 8 8 8 rfl rfl rfl rfl (by omega) _ rfl ?_; intro w1 ho1 hg1 hg1' hb1; have H := h.gr hg1; have h0 := H.h0; have h1 := H.h1; have h2 := H.h2; have h3 := H.h3; have h4 := H.h4; have hq2 := H.hq2; have hq9 := H.hq9))
  go_region_with (go_at_call 53; refine (put16 _ w.heap.size 8 _ 0 _ _ (len % 65536) (by omega) ho1.drew (by omega) (by simp)).mono ?_; rintro e w3 ⟨rfl, ho3, hf3⟩)
  all_goals
    have hgr := hf3 w hg1'.drew (Nat.le_refl _)
    have H := h.gr hgr; have h2 := H.h2; have h3 := H.h3
    have k4 := ho3.cell 4 (by simp [putAt_length])
    have k5 := ho3.cell 5 (by simp [putAt_length])
    have f4 := ho3.free 4
    have f5 := ho3.free 5
    go_wp2
    go_ret
    exact ret_head _ _ (by simp [headL, be2]; omega) (by simp [headL, be2, putAt, List.replicate]; omega) ((ho3.setCell 4 (by simp [putAt_length]) ty hty).setCell 5 (by simp [putAt_length]) fl hfl) (Nat.le_refl _) ((hgr.setCell (Nat.le_refl _) _).setCell (Nat.le_refl _) _)

theorem pkt_bytes_small_old (b q : Nat) (off len ty fl ver : Int) (done : Bool) (w : World) (hoff : 0 ≤ off ∧ off ≤ 8) (_hlen : 0 ≤ len ∧ len < 4294967296) (hty : 0 ≤ ty ∧ ty < 256) (hfl : 0 ≤ fl ∧ fl < 256)
    (h : PkCells w b q off len ty fl ver done) (hd : done = true) (hv : ver < 315) :
    Calls Tryd.prog 41 #[.pointer (some ⟨b, 0, none⟩)] w (RetB w (headL false len ty fl off.toNat)) := by
  subst hd
  have H := h; have h0 := H.h0; have h1 := H.h1; have h2 := H.h2; have h3 := H.h3; have h4 := H.h4; have hq2 := H.hq2; have hq9 := H.hq9
  go_enter Tryd.func41, Tryd.ntmps41
  go_wp2_with (first
    | (at_make; refine wpList_make_gr u8 rfl _ _ rfl (Gr.refl w) .i64 .i64 8 8 8 rfl rfl rfl rfl (by omega) _ rfl ?_; intro w1 ho1 hg1 hg1' hb1; have H := h.gr hg1; have h0 := H.h0; have h1 := H.h1; have h2 := H.h2; have h3 := H.h3; have h4 := H.h4; have hq2 := H.hq2; have hq9 := H.hq9))
  go_region_with (go_at_call 53; refine (put16 _ w.heap.size 8 _ 0 _ _ (len % 65536) (by omega) ho1.drew (by omega) (by simp)).mono ?_; rintro e w3 ⟨rfl, ho3, hf3⟩)
  all_goals
    have hgr := hf3 w hg1'.drew (Nat.le_refl _)
    have H := h.gr hgr; have h2 := H.h2; have h3 := H.h3
    have k4 := ho3.cell 4 (by simp [putAt_length])
    have k5 := ho3.cell 5 (by simp [putAt_length])
    have f4 := ho3.free 4
    have f5 := ho3.free 5
    go_wp2
    go_ret
    exact ret_head _ _ (by simp [headL, be2]; omega) (by simp [headL, be2, putAt, List.replicate]; omega) ((ho3.setCell 4 (by simp [putAt_length]) ty hty).setCell 5 (by simp [putAt_length]) fl hfl) (Nat.le_refl _) ((hgr.setCell (Nat.le_refl _) _).setCell (Nat.le_refl _) _)

theorem pkt_bytes (b q : Nat) (off len ty fl ver : Int) (done : Bool) (w : World) (hoff : 0 ≤ off ∧ off ≤ 65535) (hlen : 0 ≤ len ∧ len < 4294967296) (hty : 0 ≤ ty ∧ ty < 256) (hfl : 0 ≤ fl ∧ fl < 256)
    (h : PkCells w b q off len ty fl ver done) :
    Calls Tryd.prog 41 #[.pointer (some ⟨b, 0, none⟩)] w (RetB w (headL (done && decide (315 ≤ ver)) len ty fl off.toNat)) := by
  by_cases hb : 8 < off
  · by_cases hd : done = true
    · by_cases hv : 315 ≤ ver
      · rw [show (done && decide (315 ≤ ver)) = true by simp [hd, hv]]
        exact pkt_bytes_big_long b q off len ty fl ver done w ⟨hb, hoff.2⟩ hlen hty hfl h hd hv
      · rw [show (done && decide (315 ≤ ver)) = false by simp [hv]]
        exact pkt_bytes_big_old b q off len ty fl ver done w ⟨hb, hoff.2⟩ hlen hty hfl h hd (by omega)
    · rw [show (done && decide (315 ≤ ver)) = false by simp [hd]]
      exact pkt_bytes_big_undone b q off len ty fl ver done w ⟨hb, hoff.2⟩ hlen hty hfl h (by simpa using hd)
  · by_cases hd : done = true
    · by_cases hv : 315 ≤ ver
      · rw [show (done && decide (315 ≤ ver)) = true by simp [hd, hv]]
        exact pkt_bytes_small_long b q off len ty fl ver done w ⟨hoff.1, by omega⟩ hlen hty hfl h hd hv
      · rw [show (done && decide (315 ≤ ver)) = false by simp [hv]]
        exact pkt_bytes_small_old b q off len ty fl ver done w ⟨hoff.1, by omega⟩ hlen hty hfl h hd (by omega)
    · rw [show (done && decide (315 ≤ ver)) = false by simp [hd]]
      exact pkt_bytes_small_undone b q off len ty fl ver done w ⟨hoff.1, by omega⟩ hlen hty hfl h (by simpa using hd)

end Go.Proofs.YtoaajnhbcekglaaDoor
