import Derived.Test.Qxb6600855aRows
import Derived.Test.Qxb6600855aNm
import Derived.WalkKit
import Derived.WalkSpells
import Derived.WalkLawsBesides
import Derived.Handy
namespace Go.Proofs.Qxb6600855a
open Go.RowKit

def str (l : List UInt8) : ByteArray := ⟨l.toArray⟩
theorem size_str (l : List UInt8) : (str l).size = l.length := by simp [str, ByteArray.size]

theorem encode_letter (i : Nat) : Utf8.encode (65 + (i : Int) % 26) = str [UInt8.ofNat (65 + i % 26)] := by
  obtain ⟨n, hn⟩ : ∃ n : Nat, n = 65 + i % 26 := ⟨_, rfl⟩
  rw [show (65 + (i : Int) % 26) = ((n : Nat) : Int) by omega, ← hn]
  have hv : Utf8.valid (n : Int) = true := by unfold Utf8.valid; simp; omega
  have h1 : n < 128 := by omega
  simp only [Utf8.encode, hv, if_true, Int.toNat_natCast, if_pos h1, str]

theorem str_append (a b : List UInt8) : str a ++ str b = str (a ++ b) := by
  simp [str, ByteArray.mk_append_mk]

theorem ret_str {a b : ByteArray} (h : a = b) : Ending.returned (.string a) = .returned (.string b) := by rw [h]

set_option maxHeartbeats 400000 in
theorem col_any : ∀ (b i : Nat) (I : Int) (R : ByteArray) (w : World), I = (i : Int) → i < 2 ^ b → b ≤ 63 → R = str (Nm.nm b i) →
    Calls Try.prog 12 #[.int .i64 I] w fun e w' => e = .returned (.string R) ∧ w' = w := by
  intro b
  induction b with
  | zero =>
    intro i I R w hI h _ hR
    subst hI
    have HR : Hid (R = str (Nm.nm 0 i)) := hR
    clear hR
    obtain rfl : i = 0 := by simpa using h
    go_enter Try.func12, Try.ntmps12
    go_wp2_with fail
    go_ret
    exact ⟨ret_str (by rw [HR.out]; exact encode_letter 0), rfl⟩
  | succ b ih =>
    intro i I R w hI h hb hR
    subst hI
    have HR : Hid (R = str (Nm.nm (b + 1) i)) := hR
    have HP : Hid (i / 26 - 1 < 2 ^ b) := by show _ < _; rw [Nat.pow_succ] at h; omega
    have hi : (i : Int) ≤ 9223372036854775807 := by
      have h2 : 2 ^ (b + 1) ≤ 2 ^ 63 := Nat.pow_le_pow_right (by omega) hb
      omega
    have HI : Hid (∀ (i : Nat) (I : Int) (R : ByteArray) (w : World), I = (i : Int) → i < 2 ^ b → b ≤ 63 → R = str (Nm.nm b i) →
      Calls Try.prog 12 #[.int .i64 I] w fun e w' => e = .returned (.string R) ∧ w' = w) := ih
    clear h hR ih
    by_cases c : i < 26
    · go_enter Try.func12, Try.ntmps12
      go_wp2_with fail
      go_ret
      exact ⟨ret_str (by rw [HR.out, Nm.nm, if_pos c]; exact encode_letter i), rfl⟩
    · obtain ⟨S, hS⟩ : ∃ S, S = str (Nm.nm b (i / 26 - 1)) := ⟨_, rfl⟩
      have HS : Hid (S = str (Nm.nm b (i / 26 - 1))) := hS
      have hz : S.size ≤ 64 := by rw [hS, size_str]; have := Nm.length_nm b (i / 26 - 1); omega
      clear hS
      go_enter Try.func12, Try.ntmps12
      go_wp2_with fail
      refine (HI.out (i / 26 - 1) _ S w (by omega) HP.out (by omega) HS.out).mono ?_
      rintro e w' ⟨rfl, rfl⟩
      generalize hE : Utf8.encode (65 + (i : Int) % 26) = E
      have HE : Hid (E = str [UInt8.ofNat (65 + i % 26)]) := by show _ = _; rw [← hE]; exact encode_letter i
      have hzE : E.size ≤ 4 := by rw [HE.out, size_str]; simp
      clear hE
      go_wp2_with fail
      go_ret
      refine ⟨ret_str ?_, rfl⟩
      rw [HR.out, Nm.nm, if_neg c, HS.out, HE.out, str_append]
end Go.Proofs.Qxb6600855a
