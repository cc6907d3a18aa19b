/- The reference's head of an address: spec.ConfigHead. -/
import Derived.Test.YtpadpdmidiaeoaaGreatDoorUoB
namespace Go.Proofs.YtpadpdmidiaeoaaGreatDoor
open Go Go.RowKit Go.Lib

def headL (server D service user pw : List UInt8) : List UInt8 := [111, 114, 97, 99, 108, 101, 58, 47, 47] ++ (esc user ++ 58 :: (esc pw ++ 64 :: ((server ++ 58 :: D) ++ 47 :: esc service)))

set_option maxRecDepth 100000 in
set_option maxHeartbeats 4000000 in
theorem configHead (server service user pw : List UInt8) (n : Int) (hn0 : 0 ≤ n) (hn1 : n ≤ 65535) (h1 : server.length ≤ 100000) (h2 : service.length ≤ 100000) (h3 : user.length ≤ 100000) (h4 : pw.length ≤ 100000) (w : World) (ht : Tab10 w) :
    Calls Tryz.prog 14 #[.string (bs server), .int .i64 n, .string (bs service), .string (bs user), .string (bs pw)] w
      fun e w' => e = .returned (.string (bs (headL server (Lib.itoa n) service user pw))) ∧ Gr w w' := by
  have HP1 := fun w => Lib.hid (configPath user h3 w)
  have HP2 := fun w => Lib.hid (configPath pw h4 w)
  have HP3 := fun w => Lib.hid (configPath service h2 w)
  have HI := fun w ht => Lib.hid (itoa n (by omega) (by omega) w ht)
  have hil := itoa_len n (by omega) (by omega)
  have he : bs (headL server (Lib.itoa n) service user pw) = ((((((⟨#[111, 114, 97, 99, 108, 101, 58, 47, 47]⟩ : ByteArray) ++ bs (esc user)) ++ ⟨#[58]⟩) ++ bs (esc pw)) ++ ⟨#[64]⟩) ++ bs server) ++ ⟨#[58]⟩ ++ bs (Lib.itoa n) ++ ⟨#[47]⟩ ++ bs (esc service) := by
    rw [show (⟨#[111, 114, 97, 99, 108, 101, 58, 47, 47]⟩ : ByteArray) = bs [111, 114, 97, 99, 108, 101, 58, 47, 47] from rfl, show (⟨#[58]⟩ : ByteArray) = bs [58] from rfl, show (⟨#[64]⟩ : ByteArray) = bs [64] from rfl, show (⟨#[47]⟩ : ByteArray) = bs [47] from rfl]
    simp only [bs_append, headL, List.append_assoc, List.cons_append, List.nil_append]
  rw [he]
  have s1 : (bs (esc user)).size ≤ 3000000 := by rw [bs_size, esc_len]; have := cntE_le user; omega
  have s2 : (bs (esc pw)).size ≤ 3000000 := by rw [bs_size, esc_len]; have := cntE_le pw; omega
  have s3 : (bs (esc service)).size ≤ 3000000 := by rw [bs_size, esc_len]; have := cntE_le service; omega
  have s4 : (bs server).size ≤ 100000 := by rw [bs_size]; exact h1
  have s5 : (bs (Lib.itoa n)).size ≤ 21 := by rw [bs_size]; exact hil
  clear he h1 h2 h3 h4 hn0 hn1 hil
  generalize bs (esc user) = X1 at *
  generalize bs (esc pw) = X2 at *
  generalize bs (esc service) = X3 at *
  generalize bs user = U at *
  generalize bs pw = PW at *
  generalize bs service = SV at *
  generalize bs (Lib.itoa n) = D at *
  generalize bs server = J at *
  have k9 : (⟨#[111, 114, 97, 99, 108, 101, 58, 47, 47]⟩ : ByteArray).size = 9 := rfl
  have k1 : (⟨#[58]⟩ : ByteArray).size = 1 := rfl
  have k2 : (⟨#[64]⟩ : ByteArray).size = 1 := rfl
  have k3 : (⟨#[47]⟩ : ByteArray).size = 1 := rfl
  have z1 : (⟨#[111, 114, 97, 99, 108, 101, 58, 47, 47]⟩ : ByteArray).size + X1.size ≤ 9223372036854775807 := by rw [k9]; omega
  have z2 : ((⟨#[111, 114, 97, 99, 108, 101, 58, 47, 47]⟩ : ByteArray) ++ X1).size + (⟨#[58]⟩ : ByteArray).size ≤ 9223372036854775807 := by simp only [ByteArray.size_append, k9, k1]; omega
  have z3 : ((⟨#[111, 114, 97, 99, 108, 101, 58, 47, 47]⟩ : ByteArray) ++ X1 ++ ⟨#[58]⟩).size + X2.size ≤ 9223372036854775807 := by simp only [ByteArray.size_append, k9, k1]; omega
  have z4 : ((⟨#[111, 114, 97, 99, 108, 101, 58, 47, 47]⟩ : ByteArray) ++ X1 ++ ⟨#[58]⟩ ++ X2).size + (⟨#[64]⟩ : ByteArray).size ≤ 9223372036854775807 := by simp only [ByteArray.size_append, k9, k1, k2]; omega
  have z5 : ((⟨#[111, 114, 97, 99, 108, 101, 58, 47, 47]⟩ : ByteArray) ++ X1 ++ ⟨#[58]⟩ ++ X2 ++ ⟨#[64]⟩).size + J.size ≤ 9223372036854775807 := by simp only [ByteArray.size_append, k9, k1, k2]; omega
  have z6 : ((⟨#[111, 114, 97, 99, 108, 101, 58, 47, 47]⟩ : ByteArray) ++ X1 ++ ⟨#[58]⟩ ++ X2 ++ ⟨#[64]⟩ ++ J).size + (⟨#[58]⟩ : ByteArray).size ≤ 9223372036854775807 := by simp only [ByteArray.size_append, k9, k1, k2]; omega
  have z7 : ((⟨#[111, 114, 97, 99, 108, 101, 58, 47, 47]⟩ : ByteArray) ++ X1 ++ ⟨#[58]⟩ ++ X2 ++ ⟨#[64]⟩ ++ J ++ ⟨#[58]⟩).size + D.size ≤ 9223372036854775807 := by simp only [ByteArray.size_append, k9, k1, k2]; omega
  have z8 : ((⟨#[111, 114, 97, 99, 108, 101, 58, 47, 47]⟩ : ByteArray) ++ X1 ++ ⟨#[58]⟩ ++ X2 ++ ⟨#[64]⟩ ++ J ++ ⟨#[58]⟩ ++ D).size + (⟨#[47]⟩ : ByteArray).size ≤ 9223372036854775807 := by simp only [ByteArray.size_append, k9, k1, k2, k3]; omega
  have z9 : ((⟨#[111, 114, 97, 99, 108, 101, 58, 47, 47]⟩ : ByteArray) ++ X1 ++ ⟨#[58]⟩ ++ X2 ++ ⟨#[64]⟩ ++ J ++ ⟨#[58]⟩ ++ D ++ ⟨#[47]⟩).size + X3.size ≤ 9223372036854775807 := by simp only [ByteArray.size_append, k9, k1, k2, k3]; omega
  clear k9 k1 k2 k3 s1 s2 s3 s4 s5
  have HT := Lib.hid ht
  have tok1 := True.intro; have tok2 := True.intro
  clear ht
  go_enter Tryz.func14, Tryz.ntmps14
  go_wp2_with (first
    | (have _t := tok1; go_at_call 25; clear tok1 _t; go_must (with_reducible refine (HP1 _).out.mono ?_); rintro e w1 ⟨rfl, hg1⟩; have HG1 := Lib.hid hg1; clear hg1)
    | (have _t := tok2; go_at_call 25; clear tok2 _t; go_must (with_reducible refine (HP2 _).out.mono ?_); rintro e w2 ⟨rfl, hg2⟩; have HG2 := Lib.hid (HG1.out.trans hg2); clear hg2)
    | (go_at_call 26; go_must (with_reducible refine (HI _ (HT.out.gr HG2.out)).out.mono ?_); rintro e w3 ⟨rfl, hg3⟩; have HG3 := Lib.hid (HG2.out.trans hg3); clear hg3)
    | (go_at_call 25; go_must (with_reducible refine (HP3 _).out.mono ?_); rintro e w5 ⟨rfl, hg5⟩; have HG5 := Lib.hid (HG3.out.trans hg5); clear hg5))
  go_ret
  exact ⟨rfl, HG5.out⟩
end Go.Proofs.YtpadpdmidiaeoaaGreatDoor
