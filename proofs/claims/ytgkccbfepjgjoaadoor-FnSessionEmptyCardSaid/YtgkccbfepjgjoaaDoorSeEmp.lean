/- FnSessionEmpty: the walk of the law. -/
import Derived.Test.YtgkccbfepjgjoaaDoorSeT
namespace Go.Proofs.YtgkccbfepjgjoaaDoor
open Go Go.RowKit

theorem does_empty (big : Bool) (k : Nat) (m : Nat) (hk : k < 10) (h1 : 1 ≤ m) (hm : m ≤ 256) (h8 : k = 4 ∨ k = 5 → m ≤ 8) : Does big ⟨k, m, big, false⟩ [] none := by
  intro s ch E w h
  have hno : rdNum m big ([] : List Int) = none := by unfold rdNum; rw [if_neg (by simp; omega)]
  match k, hk with
  | 0, _ => exact gotn_byte s big ch E [] m big false w h rfl (by omega)
  | 1, _ => exact gotn_bytes s big ch E [] m big false w h (by simp; omega) (by omega)
  | 2, _ => exact gotn_clr s big ch E [] m big false w h Clr.torn (by omega)
  | 3, _ => exact gotn_dlc s big ch E [] m big false w h trivial (Dlc.torn trivial rfl) (by omega)
  | 4, _ => exact gotn_i64n s big ch E [] m big w h h1 (h8 (.inl rfl)) hno
  | 5, _ => exact gotn_intn s big ch E [] m big w h h1 (h8 (.inr rfl)) hno
  | 6, _ => exact gotn_kv s big ch E [] m big false w h (fun w h => keyVal_no1 s big ch E [] w h (Dlc.torn trivial rfl)) (by omega)
  | 7, _ => exact gotn_null s big ch E [] m big false w h (by simp; omega) (by omega)
  | 8, _ => exact gotn_fix s big ch E [] m big false w h Fix.torn (by omega)
  | 9, _ => exact gotn_peek s big ch E [] m big false w h (by simp; omega) (by omega)

set_option maxRecDepth 100000 in
set_option maxHeartbeats 4000000 in
theorem law_empty (a b : Nat) (ha : a < 256) (hb : b < 256) (big : Bool) (E : Value) (w : World) (hE : EndE w E) :
    Calls Tryd.prog 3 #[.int .u8 a, .int .u8 b, .bool big] w (RetT w) := by
  have HE := Lib.hid hE
  have HL := fun W h => Lib.hid (sessionLive E W h)
  have HGG := fun (k m : Int) (hd : Does big ⟨k, m, big, false⟩ [] none) W v hE hv => Lib.hid (sessionGet (.slice none 0 0) v [] [⟨k, m, big, false⟩] big _ _ E W hE (Rd.nil W) (by simp) hv (by simp) (Runs.torn hd))
  have hrun2 : Runs big [⟨1, 0, false, false⟩] [] [⟨true, [], [], 0, ⟨#[]⟩⟩] (some []) := Runs.cons (fun s ch E w h => got_bytes s big ch E [] [] [] 0 false false w h (by simp) rfl rfl (by simp)) rfl (Runs.nil _)
  have HG2 := fun W v hE hv => Lib.hid (sessionGet (.slice none 0 0) v [] [⟨1, 0, false, false⟩] big _ _ E W hE (Rd.nil W) (by simp) hv (by simp) hrun2)
  have tok1 : True := trivial
  clear hE hrun2
  by_cases h45 : a % 10 = 4 ∨ a % 10 = 5
  · have hk : (a : Int) % 10 = 4 ∨ (a : Int) % 10 = 5 := by omega
    rcases hk with k4 | k4
    · rcases (by omega : b % 4 = 0 ∨ b % 4 = 1 ∨ b % 4 = 2 ∨ b % 4 = 3) with hb4 | hb4 | hb4 | hb4
      · have b4 : (b : Int) % 4 = 0 := by omega
        have HG1 := HGG _ _ (does_empty big 4 1 (by omega) (by omega) (by omega) (fun _ => by omega))
        clear HGG
        go_enter Tryd.func3, Tryd.ntmps3
        go_wp2_with (first
          | (go_at_call 13; have _t := tok1; go_must (refine (HG1 _ _ (HE.out.gr (by with_reducible first | exact (Gr.refl w).alloc _ | exact ((Gr.refl w).alloc _).alloc _)) (RdSt.one ⟨_, _, _, _⟩ (heap_new_at _ _ (by simp)))).out.mono ?_); rintro e w2 ⟨g2, l2, left2, rfl, hO2, _, _, hg2⟩; have hG : Gr w w2 := Gr.trans (by with_reducible first | exact (Gr.refl w).alloc _ | exact ((Gr.refl w).alloc _).alloc _) hg2; clear tok1 _t; obtain ⟨gb, gc, gd, go, rfl, hgc, hgm, c0, c1, c2, c3, c4, rd2, ro2⟩ := hO2.one; clear hO2 c1 c2 c3 c4 rd2 ro2)
          | (go_at_call 13; go_must (refine (HG2 _ _ (HE.out.gr (hG.alloc _)) (RdSt.one ⟨1, 0, false, false⟩ (heap_new_at _ _ (by simp)))).out.mono ?_); rintro e w3 ⟨g3, l3, left3, rfl, hO3, ho3, hl3, hg3⟩; obtain rfl := hl3 _ rfl; have c0 := (((Gr.refl w2).alloc _).trans hg3).cell c0; have hG := (hG.alloc _).trans hg3; obtain ⟨gb3, gc3, gd3, go3, rfl, hgc3, hgm3, d0, d1, d2, d3, d4, rd3, ro3⟩ := hO3.one; obtain ⟨lp, lc, rfl, _⟩ := ho3.rd; clear hO3 ho3 d1 d2 d3 d4 rd3 ro3)
          | (go_at_call 14; go_must (refine (HL _ (HE.out.gr hG)).out.mono ?_); rintro e w4 ⟨rfl, hg4⟩))
        go_ret
        exact ⟨rfl, hG.trans hg4⟩
      · have b4 : (b : Int) % 4 = 1 := by omega
        have HG1 := HGG _ _ (does_empty big 4 2 (by omega) (by omega) (by omega) (fun _ => by omega))
        clear HGG
        go_enter Tryd.func3, Tryd.ntmps3
        go_wp2_with (first
          | (go_at_call 13; have _t := tok1; go_must (refine (HG1 _ _ (HE.out.gr (by with_reducible first | exact (Gr.refl w).alloc _ | exact ((Gr.refl w).alloc _).alloc _)) (RdSt.one ⟨_, _, _, _⟩ (heap_new_at _ _ (by simp)))).out.mono ?_); rintro e w2 ⟨g2, l2, left2, rfl, hO2, _, _, hg2⟩; have hG : Gr w w2 := Gr.trans (by with_reducible first | exact (Gr.refl w).alloc _ | exact ((Gr.refl w).alloc _).alloc _) hg2; clear tok1 _t; obtain ⟨gb, gc, gd, go, rfl, hgc, hgm, c0, c1, c2, c3, c4, rd2, ro2⟩ := hO2.one; clear hO2 c1 c2 c3 c4 rd2 ro2)
          | (go_at_call 13; go_must (refine (HG2 _ _ (HE.out.gr (hG.alloc _)) (RdSt.one ⟨1, 0, false, false⟩ (heap_new_at _ _ (by simp)))).out.mono ?_); rintro e w3 ⟨g3, l3, left3, rfl, hO3, ho3, hl3, hg3⟩; obtain rfl := hl3 _ rfl; have c0 := (((Gr.refl w2).alloc _).trans hg3).cell c0; have hG := (hG.alloc _).trans hg3; obtain ⟨gb3, gc3, gd3, go3, rfl, hgc3, hgm3, d0, d1, d2, d3, d4, rd3, ro3⟩ := hO3.one; obtain ⟨lp, lc, rfl, _⟩ := ho3.rd; clear hO3 ho3 d1 d2 d3 d4 rd3 ro3)
          | (go_at_call 14; go_must (refine (HL _ (HE.out.gr hG)).out.mono ?_); rintro e w4 ⟨rfl, hg4⟩))
        go_ret
        exact ⟨rfl, hG.trans hg4⟩
      · have b4 : (b : Int) % 4 = 2 := by omega
        have HG1 := HGG _ _ (does_empty big 4 4 (by omega) (by omega) (by omega) (fun _ => by omega))
        clear HGG
        go_enter Tryd.func3, Tryd.ntmps3
        go_wp2_with (first
          | (go_at_call 13; have _t := tok1; go_must (refine (HG1 _ _ (HE.out.gr (by with_reducible first | exact (Gr.refl w).alloc _ | exact ((Gr.refl w).alloc _).alloc _)) (RdSt.one ⟨_, _, _, _⟩ (heap_new_at _ _ (by simp)))).out.mono ?_); rintro e w2 ⟨g2, l2, left2, rfl, hO2, _, _, hg2⟩; have hG : Gr w w2 := Gr.trans (by with_reducible first | exact (Gr.refl w).alloc _ | exact ((Gr.refl w).alloc _).alloc _) hg2; clear tok1 _t; obtain ⟨gb, gc, gd, go, rfl, hgc, hgm, c0, c1, c2, c3, c4, rd2, ro2⟩ := hO2.one; clear hO2 c1 c2 c3 c4 rd2 ro2)
          | (go_at_call 13; go_must (refine (HG2 _ _ (HE.out.gr (hG.alloc _)) (RdSt.one ⟨1, 0, false, false⟩ (heap_new_at _ _ (by simp)))).out.mono ?_); rintro e w3 ⟨g3, l3, left3, rfl, hO3, ho3, hl3, hg3⟩; obtain rfl := hl3 _ rfl; have c0 := (((Gr.refl w2).alloc _).trans hg3).cell c0; have hG := (hG.alloc _).trans hg3; obtain ⟨gb3, gc3, gd3, go3, rfl, hgc3, hgm3, d0, d1, d2, d3, d4, rd3, ro3⟩ := hO3.one; obtain ⟨lp, lc, rfl, _⟩ := ho3.rd; clear hO3 ho3 d1 d2 d3 d4 rd3 ro3)
          | (go_at_call 14; go_must (refine (HL _ (HE.out.gr hG)).out.mono ?_); rintro e w4 ⟨rfl, hg4⟩))
        go_ret
        exact ⟨rfl, hG.trans hg4⟩
      · have b4 : (b : Int) % 4 = 3 := by omega
        have HG1 := HGG _ _ (does_empty big 4 8 (by omega) (by omega) (by omega) (fun _ => by omega))
        clear HGG
        go_enter Tryd.func3, Tryd.ntmps3
        go_wp2_with (first
          | (go_at_call 13; have _t := tok1; go_must (refine (HG1 _ _ (HE.out.gr (by with_reducible first | exact (Gr.refl w).alloc _ | exact ((Gr.refl w).alloc _).alloc _)) (RdSt.one ⟨_, _, _, _⟩ (heap_new_at _ _ (by simp)))).out.mono ?_); rintro e w2 ⟨g2, l2, left2, rfl, hO2, _, _, hg2⟩; have hG : Gr w w2 := Gr.trans (by with_reducible first | exact (Gr.refl w).alloc _ | exact ((Gr.refl w).alloc _).alloc _) hg2; clear tok1 _t; obtain ⟨gb, gc, gd, go, rfl, hgc, hgm, c0, c1, c2, c3, c4, rd2, ro2⟩ := hO2.one; clear hO2 c1 c2 c3 c4 rd2 ro2)
          | (go_at_call 13; go_must (refine (HG2 _ _ (HE.out.gr (hG.alloc _)) (RdSt.one ⟨1, 0, false, false⟩ (heap_new_at _ _ (by simp)))).out.mono ?_); rintro e w3 ⟨g3, l3, left3, rfl, hO3, ho3, hl3, hg3⟩; obtain rfl := hl3 _ rfl; have c0 := (((Gr.refl w2).alloc _).trans hg3).cell c0; have hG := (hG.alloc _).trans hg3; obtain ⟨gb3, gc3, gd3, go3, rfl, hgc3, hgm3, d0, d1, d2, d3, d4, rd3, ro3⟩ := hO3.one; obtain ⟨lp, lc, rfl, _⟩ := ho3.rd; clear hO3 ho3 d1 d2 d3 d4 rd3 ro3)
          | (go_at_call 14; go_must (refine (HL _ (HE.out.gr hG)).out.mono ?_); rintro e w4 ⟨rfl, hg4⟩))
        go_ret
        exact ⟨rfl, hG.trans hg4⟩
    · rcases (by omega : b % 4 = 0 ∨ b % 4 = 1 ∨ b % 4 = 2 ∨ b % 4 = 3) with hb4 | hb4 | hb4 | hb4
      · have b4 : (b : Int) % 4 = 0 := by omega
        have HG1 := HGG _ _ (does_empty big 5 1 (by omega) (by omega) (by omega) (fun _ => by omega))
        clear HGG
        go_enter Tryd.func3, Tryd.ntmps3
        go_wp2_with (first
          | (go_at_call 13; have _t := tok1; go_must (refine (HG1 _ _ (HE.out.gr (by with_reducible first | exact (Gr.refl w).alloc _ | exact ((Gr.refl w).alloc _).alloc _)) (RdSt.one ⟨_, _, _, _⟩ (heap_new_at _ _ (by simp)))).out.mono ?_); rintro e w2 ⟨g2, l2, left2, rfl, hO2, _, _, hg2⟩; have hG : Gr w w2 := Gr.trans (by with_reducible first | exact (Gr.refl w).alloc _ | exact ((Gr.refl w).alloc _).alloc _) hg2; clear tok1 _t; obtain ⟨gb, gc, gd, go, rfl, hgc, hgm, c0, c1, c2, c3, c4, rd2, ro2⟩ := hO2.one; clear hO2 c1 c2 c3 c4 rd2 ro2)
          | (go_at_call 13; go_must (refine (HG2 _ _ (HE.out.gr (hG.alloc _)) (RdSt.one ⟨1, 0, false, false⟩ (heap_new_at _ _ (by simp)))).out.mono ?_); rintro e w3 ⟨g3, l3, left3, rfl, hO3, ho3, hl3, hg3⟩; obtain rfl := hl3 _ rfl; have c0 := (((Gr.refl w2).alloc _).trans hg3).cell c0; have hG := (hG.alloc _).trans hg3; obtain ⟨gb3, gc3, gd3, go3, rfl, hgc3, hgm3, d0, d1, d2, d3, d4, rd3, ro3⟩ := hO3.one; obtain ⟨lp, lc, rfl, _⟩ := ho3.rd; clear hO3 ho3 d1 d2 d3 d4 rd3 ro3)
          | (go_at_call 14; go_must (refine (HL _ (HE.out.gr hG)).out.mono ?_); rintro e w4 ⟨rfl, hg4⟩))
        go_ret
        exact ⟨rfl, hG.trans hg4⟩
      · have b4 : (b : Int) % 4 = 1 := by omega
        have HG1 := HGG _ _ (does_empty big 5 2 (by omega) (by omega) (by omega) (fun _ => by omega))
        clear HGG
        go_enter Tryd.func3, Tryd.ntmps3
        go_wp2_with (first
          | (go_at_call 13; have _t := tok1; go_must (refine (HG1 _ _ (HE.out.gr (by with_reducible first | exact (Gr.refl w).alloc _ | exact ((Gr.refl w).alloc _).alloc _)) (RdSt.one ⟨_, _, _, _⟩ (heap_new_at _ _ (by simp)))).out.mono ?_); rintro e w2 ⟨g2, l2, left2, rfl, hO2, _, _, hg2⟩; have hG : Gr w w2 := Gr.trans (by with_reducible first | exact (Gr.refl w).alloc _ | exact ((Gr.refl w).alloc _).alloc _) hg2; clear tok1 _t; obtain ⟨gb, gc, gd, go, rfl, hgc, hgm, c0, c1, c2, c3, c4, rd2, ro2⟩ := hO2.one; clear hO2 c1 c2 c3 c4 rd2 ro2)
          | (go_at_call 13; go_must (refine (HG2 _ _ (HE.out.gr (hG.alloc _)) (RdSt.one ⟨1, 0, false, false⟩ (heap_new_at _ _ (by simp)))).out.mono ?_); rintro e w3 ⟨g3, l3, left3, rfl, hO3, ho3, hl3, hg3⟩; obtain rfl := hl3 _ rfl; have c0 := (((Gr.refl w2).alloc _).trans hg3).cell c0; have hG := (hG.alloc _).trans hg3; obtain ⟨gb3, gc3, gd3, go3, rfl, hgc3, hgm3, d0, d1, d2, d3, d4, rd3, ro3⟩ := hO3.one; obtain ⟨lp, lc, rfl, _⟩ := ho3.rd; clear hO3 ho3 d1 d2 d3 d4 rd3 ro3)
          | (go_at_call 14; go_must (refine (HL _ (HE.out.gr hG)).out.mono ?_); rintro e w4 ⟨rfl, hg4⟩))
        go_ret
        exact ⟨rfl, hG.trans hg4⟩
      · have b4 : (b : Int) % 4 = 2 := by omega
        have HG1 := HGG _ _ (does_empty big 5 4 (by omega) (by omega) (by omega) (fun _ => by omega))
        clear HGG
        go_enter Tryd.func3, Tryd.ntmps3
        go_wp2_with (first
          | (go_at_call 13; have _t := tok1; go_must (refine (HG1 _ _ (HE.out.gr (by with_reducible first | exact (Gr.refl w).alloc _ | exact ((Gr.refl w).alloc _).alloc _)) (RdSt.one ⟨_, _, _, _⟩ (heap_new_at _ _ (by simp)))).out.mono ?_); rintro e w2 ⟨g2, l2, left2, rfl, hO2, _, _, hg2⟩; have hG : Gr w w2 := Gr.trans (by with_reducible first | exact (Gr.refl w).alloc _ | exact ((Gr.refl w).alloc _).alloc _) hg2; clear tok1 _t; obtain ⟨gb, gc, gd, go, rfl, hgc, hgm, c0, c1, c2, c3, c4, rd2, ro2⟩ := hO2.one; clear hO2 c1 c2 c3 c4 rd2 ro2)
          | (go_at_call 13; go_must (refine (HG2 _ _ (HE.out.gr (hG.alloc _)) (RdSt.one ⟨1, 0, false, false⟩ (heap_new_at _ _ (by simp)))).out.mono ?_); rintro e w3 ⟨g3, l3, left3, rfl, hO3, ho3, hl3, hg3⟩; obtain rfl := hl3 _ rfl; have c0 := (((Gr.refl w2).alloc _).trans hg3).cell c0; have hG := (hG.alloc _).trans hg3; obtain ⟨gb3, gc3, gd3, go3, rfl, hgc3, hgm3, d0, d1, d2, d3, d4, rd3, ro3⟩ := hO3.one; obtain ⟨lp, lc, rfl, _⟩ := ho3.rd; clear hO3 ho3 d1 d2 d3 d4 rd3 ro3)
          | (go_at_call 14; go_must (refine (HL _ (HE.out.gr hG)).out.mono ?_); rintro e w4 ⟨rfl, hg4⟩))
        go_ret
        exact ⟨rfl, hG.trans hg4⟩
      · have b4 : (b : Int) % 4 = 3 := by omega
        have HG1 := HGG _ _ (does_empty big 5 8 (by omega) (by omega) (by omega) (fun _ => by omega))
        clear HGG
        go_enter Tryd.func3, Tryd.ntmps3
        go_wp2_with (first
          | (go_at_call 13; have _t := tok1; go_must (refine (HG1 _ _ (HE.out.gr (by with_reducible first | exact (Gr.refl w).alloc _ | exact ((Gr.refl w).alloc _).alloc _)) (RdSt.one ⟨_, _, _, _⟩ (heap_new_at _ _ (by simp)))).out.mono ?_); rintro e w2 ⟨g2, l2, left2, rfl, hO2, _, _, hg2⟩; have hG : Gr w w2 := Gr.trans (by with_reducible first | exact (Gr.refl w).alloc _ | exact ((Gr.refl w).alloc _).alloc _) hg2; clear tok1 _t; obtain ⟨gb, gc, gd, go, rfl, hgc, hgm, c0, c1, c2, c3, c4, rd2, ro2⟩ := hO2.one; clear hO2 c1 c2 c3 c4 rd2 ro2)
          | (go_at_call 13; go_must (refine (HG2 _ _ (HE.out.gr (hG.alloc _)) (RdSt.one ⟨1, 0, false, false⟩ (heap_new_at _ _ (by simp)))).out.mono ?_); rintro e w3 ⟨g3, l3, left3, rfl, hO3, ho3, hl3, hg3⟩; obtain rfl := hl3 _ rfl; have c0 := (((Gr.refl w2).alloc _).trans hg3).cell c0; have hG := (hG.alloc _).trans hg3; obtain ⟨gb3, gc3, gd3, go3, rfl, hgc3, hgm3, d0, d1, d2, d3, d4, rd3, ro3⟩ := hO3.one; obtain ⟨lp, lc, rfl, _⟩ := ho3.rd; clear hO3 ho3 d1 d2 d3 d4 rd3 ro3)
          | (go_at_call 14; go_must (refine (HL _ (HE.out.gr hG)).out.mono ?_); rintro e w4 ⟨rfl, hg4⟩))
        go_ret
        exact ⟨rfl, hG.trans hg4⟩
  · have hk4 : ((a : Int) % 10 == 4) = false := beq_eq_false_iff_ne.2 (by omega)
    have hk5 : ((a : Int) % 10 == 5) = false := beq_eq_false_iff_ne.2 (by omega)
    have HG1 := HGG ((a : Int) % 10) ((b : Int) + 1) (by have := does_empty big (a % 10) (b + 1) (by omega) (by omega) (by omega) (fun h => absurd h h45); exact_mod_cast this)
    clear HGG
    go_enter Tryd.func3, Tryd.ntmps3
    go_wp2_with (first
      | (go_at_call 13; have _t := tok1; go_must (refine (HG1 _ _ (HE.out.gr (by with_reducible first | exact (Gr.refl w).alloc _ | exact ((Gr.refl w).alloc _).alloc _)) (RdSt.one ⟨_, _, _, _⟩ (heap_new_at _ _ (by simp)))).out.mono ?_); rintro e w2 ⟨g2, l2, left2, rfl, hO2, _, _, hg2⟩; have hG : Gr w w2 := Gr.trans (by with_reducible first | exact (Gr.refl w).alloc _ | exact ((Gr.refl w).alloc _).alloc _) hg2; clear tok1 _t; obtain ⟨gb, gc, gd, go, rfl, hgc, hgm, c0, c1, c2, c3, c4, rd2, ro2⟩ := hO2.one; clear hO2 c1 c2 c3 c4 rd2 ro2)
      | (go_at_call 13; go_must (refine (HG2 _ _ (HE.out.gr (hG.alloc _)) (RdSt.one ⟨1, 0, false, false⟩ (heap_new_at _ _ (by simp)))).out.mono ?_); rintro e w3 ⟨g3, l3, left3, rfl, hO3, ho3, hl3, hg3⟩; obtain rfl := hl3 _ rfl; have c0 := (((Gr.refl w2).alloc _).trans hg3).cell c0; have hG := (hG.alloc _).trans hg3; obtain ⟨gb3, gc3, gd3, go3, rfl, hgc3, hgm3, d0, d1, d2, d3, d4, rd3, ro3⟩ := hO3.one; obtain ⟨lp, lc, rfl, _⟩ := ho3.rd; clear hO3 ho3 d1 d2 d3 d4 rd3 ro3)
      | (go_at_call 14; go_must (refine (HL _ (HE.out.gr hG)).out.mono ?_); rintro e w4 ⟨rfl, hg4⟩))
    go_ret
    exact ⟨rfl, hG.trans hg4⟩

theorem law_empty_z (a b : Int) (ha : 0 ≤ a ∧ a < 256) (hb : 0 ≤ b ∧ b < 256) (big : Bool) (w : World) (hE : ∃ E, EndE w E) :
    Calls Tryd.prog 3 #[.int .u8 a, .int .u8 b, .bool big] w (RetT w) := by
  obtain ⟨E, hE⟩ := hE
  have := law_empty a.toNat b.toNat (by omega) (by omega) big E w hE
  rwa [Int.toNat_of_nonneg ha.1, Int.toNat_of_nonneg hb.1] at this
end Go.Proofs.YtgkccbfepjgjoaaDoor
