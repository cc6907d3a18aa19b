/- Addresses without options. -/
import Derived.Test.YtpadpdmidiaeoaaGreatDoorUrB
import Derived.Test.YtpadpdmidiaeoaaGreatDoorUrC
namespace Go.Proofs.YtpadpdmidiaeoaaGreatDoor
open Go Go.RowKit

theorem pathEscape (L : List UInt8) (hl : L.length ≤ 1000000) (w : World) (ht : TabU w) :
    Calls Tryz.prog 40 #[.string (bs L)] w fun e w' => e = .returned (.string (bs (esc L))) ∧ Gr w w' := by
  have HE := fun w ht => Lib.hid (escape L hl w ht)
  clear hl
  go_enter Tryz.func40, Tryz.ntmps40
  go_wp2_with (first | (go_at_call 55; go_must (refine (HE _ ht).out.mono ?_); rintro e w1 ⟨rfl, hg1⟩))
  go_ret
  exact ⟨rfl, hg1⟩

/-- An address without options. -/
def urlL (server D service user pw : List UInt8) : List UInt8 := [111, 114, 97, 99, 108, 101, 58, 47, 47] ++ (esc user ++ 58 :: (esc pw ++ 64 :: ((hostL server ++ 58 :: D) ++ 47 :: esc service)))
theorem joinS_size (a b : ByteArray) (h : a.size ≤ 1000000) (h2 : b.size ≤ 1000) : (joinS a b).size ≤ 1001003 := by
  unfold joinS
  have e1 : (⟨#[91]⟩ : ByteArray).size = 1 := rfl
  have e2 : (⟨#[93, 58]⟩ : ByteArray).size = 2 := rfl
  have e3 : (⟨#[58]⟩ : ByteArray).size = 1 := rfl
  split <;> simp only [ByteArray.size_append, e1, e2, e3] <;> omega

set_option maxRecDepth 100000 in
set_option maxHeartbeats 4000000 in
theorem buildUrl (server service user pw : List UInt8) (n : Int) (hn0 : 0 ≤ n) (hn1 : n ≤ 65535) (h1 : server.length ≤ 1000000) (h2 : service.length ≤ 1000000) (h3 : user.length ≤ 1000000) (h4 : pw.length ≤ 1000000) (w : World) (hu : TabU w) (ht : Tab10 w) :
    Calls Tryz.prog 23 #[.string (bs server), .int .i64 n, .string (bs service), .string (bs user), .string (bs pw), .map none] w
      fun e w' => e = .returned (.string (bs (urlL server (Lib.itoa n) service user pw))) ∧ Gr w w' := by
  have HP1 := fun w ht => Lib.hid (pathEscape user h3 w ht)
  have HP2 := fun w ht => Lib.hid (pathEscape pw h4 w ht)
  have HP3 := fun w ht => Lib.hid (pathEscape service h2 w ht)
  have HI := fun w ht => Lib.hid (itoa n (by omega) (by omega) w ht)
  have hil := itoa_len n (by omega) (by omega)
  have HJ := fun w => Lib.hid (joinHost (bs server) (bs (Lib.itoa n)) w (by rw [bs_size]; omega) (by rw [bs_size]; omega))
  have hjs := joinS_size (bs server) (bs (Lib.itoa n)) (by rw [bs_size]; omega) (by rw [bs_size]; omega)
  have he : bs (urlL server (Lib.itoa n) service user pw) = ((((((⟨#[111, 114, 97, 99, 108, 101, 58, 47, 47]⟩ : ByteArray) ++ bs (esc user)) ++ ⟨#[58]⟩) ++ bs (esc pw)) ++ ⟨#[64]⟩) ++ joinS (bs server) (bs (Lib.itoa n))) ++ ⟨#[47]⟩ ++ bs (esc service) := by
    rw [joinS_bs]
    rw [show (⟨#[111, 114, 97, 99, 108, 101, 58, 47, 47]⟩ : ByteArray) = bs [111, 114, 97, 99, 108, 101, 58, 47, 47] from rfl, show (⟨#[58]⟩ : ByteArray) = bs [58] from rfl, show (⟨#[64]⟩ : ByteArray) = bs [64] from rfl, show (⟨#[47]⟩ : ByteArray) = bs [47] from rfl]
    simp only [bs_append, urlL, List.append_assoc, List.cons_append, List.nil_append]
  rw [he]
  have s1 : (bs (esc user)).size ≤ 3000000 := by rw [bs_size, esc_len]; have := cntE_le user; omega
  have s2 : (bs (esc pw)).size ≤ 3000000 := by rw [bs_size, esc_len]; have := cntE_le pw; omega
  have s3 : (bs (esc service)).size ≤ 3000000 := by rw [bs_size, esc_len]; have := cntE_le service; omega
  clear he h1 h2 h3 h4 hn0 hn1 hil
  generalize bs (esc user) = X1 at *
  generalize bs (esc pw) = X2 at *
  generalize bs (esc service) = X3 at *
  generalize bs user = U at *
  generalize bs pw = PW at *
  generalize bs service = SV at *
  generalize joinS (bs server) (bs (Lib.itoa n)) = J at *
  generalize bs (Lib.itoa n) = D at *
  generalize bs server = HO at *
  have k9 : (⟨#[111, 114, 97, 99, 108, 101, 58, 47, 47]⟩ : ByteArray).size = 9 := rfl
  have k1 : (⟨#[58]⟩ : ByteArray).size = 1 := rfl
  have k2 : (⟨#[64]⟩ : ByteArray).size = 1 := rfl
  have k3 : (⟨#[47]⟩ : ByteArray).size = 1 := rfl
  have z1 : (⟨#[111, 114, 97, 99, 108, 101, 58, 47, 47]⟩ : ByteArray).size + X1.size ≤ 9223372036854775807 := by rw [k9]; omega
  have z2 : ((⟨#[111, 114, 97, 99, 108, 101, 58, 47, 47]⟩ : ByteArray) ++ X1).size + (⟨#[58]⟩ : ByteArray).size ≤ 9223372036854775807 := by simp only [ByteArray.size_append, k9, k1]; omega
  have z3 : ((⟨#[111, 114, 97, 99, 108, 101, 58, 47, 47]⟩ : ByteArray) ++ X1 ++ ⟨#[58]⟩).size + X2.size ≤ 9223372036854775807 := by simp only [ByteArray.size_append, k9, k1]; omega
  have z4 : ((⟨#[111, 114, 97, 99, 108, 101, 58, 47, 47]⟩ : ByteArray) ++ X1 ++ ⟨#[58]⟩ ++ X2).size + (⟨#[64]⟩ : ByteArray).size ≤ 9223372036854775807 := by simp only [ByteArray.size_append, k9, k1, k2]; omega
  have z5 : ((⟨#[111, 114, 97, 99, 108, 101, 58, 47, 47]⟩ : ByteArray) ++ X1 ++ ⟨#[58]⟩ ++ X2 ++ ⟨#[64]⟩).size + J.size ≤ 9223372036854775807 := by simp only [ByteArray.size_append, k9, k1, k2]; omega
  have z6 : ((⟨#[111, 114, 97, 99, 108, 101, 58, 47, 47]⟩ : ByteArray) ++ X1 ++ ⟨#[58]⟩ ++ X2 ++ ⟨#[64]⟩ ++ J).size + (⟨#[47]⟩ : ByteArray).size ≤ 9223372036854775807 := by simp only [ByteArray.size_append, k9, k1, k2, k3]; omega
  have z7 : ((⟨#[111, 114, 97, 99, 108, 101, 58, 47, 47]⟩ : ByteArray) ++ X1 ++ ⟨#[58]⟩ ++ X2 ++ ⟨#[64]⟩ ++ J ++ ⟨#[47]⟩).size + X3.size ≤ 9223372036854775807 := by simp only [ByteArray.size_append, k9, k1, k2, k3]; omega
  clear k9 k1 k2 k3 s1 s2 s3 hjs
  have HU := Lib.hid hu
  have HT := Lib.hid ht
  have tok1 := True.intro; have tok2 := True.intro
  have hnm : ∀ W, (binOp .neq 49 (.map none) (.map none)).run Tryz.prog W = .ok (.bool false) W := fun W => run_neq_map_nil W _ _ _ none Tryz.underlying49
  clear hu ht
  go_enter Tryz.func23, Tryz.ntmps23
  go_wp2_with (first
    | (have _t := tok1; go_at_call 40; clear tok1 _t; go_must (with_reducible refine (HP1 _ HU.out).out.mono ?_); rintro e w1 ⟨rfl, hg1⟩; have HG1 := Lib.hid hg1; clear hg1)
    | (have _t := tok2; go_at_call 40; clear tok2 _t; go_must (with_reducible refine (HP2 _ (HU.out.gr HG1.out)).out.mono ?_); rintro e w2 ⟨rfl, hg2⟩; have HG2 := Lib.hid (HG1.out.trans hg2); clear hg2)
    | (go_at_call 26; go_must (with_reducible refine (HI _ (HT.out.gr HG2.out)).out.mono ?_); rintro e w3 ⟨rfl, hg3⟩; have HG3 := Lib.hid (HG2.out.trans hg3); clear hg3)
    | (go_at_call 41; go_must (with_reducible refine (HJ _).out.mono ?_); rintro e w4 ⟨rfl, hw⟩; obtain rfl := hw.symm)
    | (go_at_call 40; go_must (with_reducible refine (HP3 _ (HU.out.gr HG3.out)).out.mono ?_); rintro e w5 ⟨rfl, hg5⟩; have HG5 := Lib.hid (HG3.out.trans hg5); clear hg5))
  go_ret
  exact ⟨rfl, HG5.out⟩

theorem options0 (w : World) : Calls Tryz.prog 24 #[.slice none 0 0] w fun e w' => e = .returned (.map none) ∧ w' = w := by
  go_enter Tryz.func24, Tryz.ntmps24
  go_wp2
  go_ret
  exact ⟨rfl, rfl⟩

theorem implUrl (server service user pw : List UInt8) (n : Int) (hn0 : 0 ≤ n) (hn1 : n ≤ 65535) (h1 : server.length ≤ 1000000) (h2 : service.length ≤ 1000000) (h3 : user.length ≤ 1000000) (h4 : pw.length ≤ 1000000) (w : World) (hu : TabU w) (ht : Tab10 w) :
    Calls Tryz.prog 13 #[.string (bs server), .int .i64 n, .string (bs service), .string (bs user), .string (bs pw), .slice none 0 0] w
      fun e w' => e = .returned (.string (bs (urlL server (Lib.itoa n) service user pw))) ∧ Gr w w' := by
  have HB := Lib.hid (buildUrl server service user pw n hn0 hn1 h1 h2 h3 h4 w hu ht)
  clear hn0 hn1 h1 h2 h3 h4 hu ht
  go_enter Tryz.func13, Tryz.ntmps13
  go_wp2_with (first
    | (go_at_call 24; go_must (refine (options0 _).mono ?_); rintro e w1 ⟨rfl, hw⟩; obtain rfl := hw.symm)
    | (go_at_call 23; go_must (refine HB.out.mono ?_); rintro e w2 ⟨rfl, hg2⟩))
  go_ret
  exact ⟨rfl, hg2⟩
end Go.Proofs.YtpadpdmidiaeoaaGreatDoor
