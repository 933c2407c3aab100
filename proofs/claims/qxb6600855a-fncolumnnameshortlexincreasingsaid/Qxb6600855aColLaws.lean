import Derived.Test.Qxb6600855aCol
namespace Go.Proofs.Qxb6600855a
open Go.RowKit

theorem zzcol_any (i : Nat) (R : ByteArray) (w : World) (hi : i ≤ 9223372036854775807) (hR : R = str (Nm.nm 63 i)) :
    Calls Try.prog 6 #[.int .i64 i] w fun e w' => e = .returned (.string R) ∧ w' = w := by
  have HR : Hid (R = str (Nm.nm 63 i)) := hR
  clear hR
  go_enter Try.func6, Try.ntmps6
  go_wp2_with fail
  refine (col_any 63 i _ R w rfl (by omega) (by omega) HR.out).mono ?_
  rintro e w' ⟨rfl, rfl⟩
  go_wp2
  go_ret
  exact ⟨rfl, rfl⟩

theorem at_str {S : ByteArray} {l : List UInt8} (h : S = str l) (k : Nat) (hk : k < S.size) (hl : k < l.length) : S[k] = l[k] := by
  subst h
  rfl

set_option maxHeartbeats 400000 in
theorem law3_neg (i : Int) (w : World) (h : i < 0) :
    Calls Try.prog 3 #[.int .i64 i] w fun e w' => e = .returned (.bool true) ∧ w' = w := by
  go_enter Try.func3, Try.ntmps3
  go_wp2
  go_ret
  exact ⟨rfl, rfl⟩

set_option maxHeartbeats 400000 in
theorem law3_main (i : Nat) (w : World) (hi : i ≤ 9223372036854775807) :
    Calls Try.prog 3 #[.int .i64 i] w fun e w' => e = .returned (.bool true) ∧ w' = w := by
  obtain ⟨l, hl⟩ : ∃ l, l = Nm.nm 63 i := ⟨_, rfl⟩
  obtain ⟨S, hS⟩ : ∃ S, S = str l := ⟨_, rfl⟩
  have HV : Hid (Nm.valFrom 0 l = i + 1) := by show _ = _; rw [hl]; exact Nm.val_nm 63 i (by omega)
  have HA : Hid (Nm.letters l) := by show Nm.letters l; rw [hl]; exact Nm.letters_nm 63 i
  have HN : Hid (S = str (Nm.nm 63 i)) := by show _ = _; rw [hS, hl]
  have HS : Hid (S = str l) := hS
  have HZ : Hid (S.size = l.length) := by show _ = _; rw [hS, size_str]
  have hz1 : 1 ≤ S.size := by rw [hS, size_str, hl]; exact (Nm.length_nm 63 i).1
  have hz2 : S.size ≤ 64 := by rw [hS, size_str, hl]; exact (Nm.length_nm 63 i).2
  have hz3 : ((S.size : Int) == 0) = false := beq_eq_false_iff_ne.2 (by omega)
  clear hl hS
  go_enter Try.func3, Try.ntmps3
  go_wp2_with fail
  refine (zzcol_any i S w hi HN.out).mono ?_
  rintro e w' ⟨rfl, rfl⟩
  go_wp2_with fail
  go_loop [4, 5] (fun v4 v5 => ∃ k x : Nat, k ≤ S.size ∧ v4 = .int .u64 x ∧ v5 = .int .i64 k ∧ Hid (x = Nm.valFrom 0 (l.take k))) (fun _ v => S.size - (intOf v).toNat)
  case atStart => exact ⟨0, 0, by omega, rfl, rfl, (Nm.valFrom_nil 0).symm⟩
  case round =>
    obtain ⟨k, x, hk, rfl, rfl, HX⟩ := hrel
    by_cases hlt : k < S.size
    · have hkl : k < l.length := by have := HZ.out; omega
      have hat := at_str HS.out k hlt hkl
      have hc := HA.out l[k] (List.getElem_mem _)
      have hv := Nm.val_take l k hkl
      have hle := Nm.val_take_le l (k + 1)
      rw [← hat] at hc hv
      have hV := HV.out
      have hX := HX.out
      rw [← hX] at hv
      have hx : x * 26 ≤ 9223372036854775807 := by omega
      have hx2 : (x : Int) ≤ 354745078340568300 := by omega
      have hc1 : (65 : Int) ≤ (S[k].toNat : Int) := by omega
      have hc2 : (S[k].toNat : Int) ≤ 90 := by omega
      have HNX : Hid (x * 26 + (S[k].toNat - 64) = Nm.valFrom 0 (l.take (k + 1))) := hv.symm
      clear hkl hat hc hv hle hV hX
      go_wp2
      go_round
      case rel => exact ⟨k + 1, x * 26 + (S[k].toNat - 64), by omega, by go_num, by go_num, HNX⟩
      case measure => simp [intOf]; omega
    · have hX := HX.out
      rw [List.take_of_length_le (by have := HZ.out; omega), HV.out] at hX
      subst hX
      go_wp2
      go_ret
      exact ⟨rfl, rfl⟩

theorem grown_of_eq {w w' : World} (h : w' = w) : Grown w w' := by subst h; exact Grown.refl _

theorem i64_bounds {a : Int} (h : (Lit.int .i64 a).wf = true) : -9223372036854775808 ≤ a ∧ a ≤ 9223372036854775807 := bounds_i64 h

theorem law3_any (i : Int) (h : (Lit.int .i64 i).wf = true) (w : World) :
    Calls Try.prog 3 #[.int .i64 i] w fun e w' => e = .returned (.bool true) ∧ Grown w w' := by
  have hb := i64_bounds h
  by_cases hn : i < 0
  · refine (law3_neg i w hn).mono ?_
    rintro e w' ⟨he, hw⟩
    exact ⟨he, grown_of_eq hw⟩
  · obtain ⟨n, rfl⟩ := Int.eq_ofNat_of_zero_le (by omega : 0 ≤ i)
    refine (law3_main n w (by omega)).mono ?_
    rintro e w' ⟨he, hw⟩
    exact ⟨he, grown_of_eq hw⟩

set_option maxHeartbeats 400000 in
theorem law4_neg (i j : Int) (w : World) (h : i < 0) :
    Calls Try.prog 4 #[.int .i64 i, .int .i64 j] w fun e w' => e = .returned (.bool true) ∧ w' = w := by
  go_enter Try.func4, Try.ntmps4
  go_wp2
  go_ret
  exact ⟨rfl, rfl⟩

set_option maxHeartbeats 400000 in
theorem law4_le (i j : Int) (w : World) (h : 0 ≤ i) (h2 : j ≤ i) :
    Calls Try.prog 4 #[.int .i64 i, .int .i64 j] w fun e w' => e = .returned (.bool true) ∧ w' = w := by
  go_enter Try.func4, Try.ntmps4
  go_wp2
  go_ret
  exact ⟨rfl, rfl⟩

set_option maxHeartbeats 400000 in
theorem law4_main (i j : Nat) (w : World) (hij : i < j) (hj : j ≤ 9223372036854775807) :
    Calls Try.prog 4 #[.int .i64 i, .int .i64 j] w fun e w' => e = .returned (.bool true) ∧ w' = w := by
  obtain ⟨A, hA⟩ : ∃ A, A = str (Nm.nm 63 i) := ⟨_, rfl⟩
  obtain ⟨B, hB⟩ : ∃ B, B = str (Nm.nm 63 j) := ⟨_, rfl⟩
  have HA : Hid (A = str (Nm.nm 63 i)) := hA
  have HB : Hid (B = str (Nm.nm 63 j)) := hB
  have hs := Nm.shortlex 63 i j hij (by omega)
  have za : A.size = (Nm.nm 63 i).length := by rw [hA, size_str]
  have zb : B.size = (Nm.nm 63 j).length := by rw [hB, size_str]
  rw [← za, ← zb] at hs
  have hm : A.size ≤ 64 ∧ B.size ≤ 64 := by
    have h1 := (Nm.length_nm 63 i).2
    have h2 := (Nm.length_nm 63 j).2
    omega
  obtain ⟨hm1, hm2⟩ := hm
  have hl : (Nm.nm 63 i).length = (Nm.nm 63 i).length ∧ Op.bytesLess (Nm.nm 63 i) (Nm.nm 63 j) = Op.bytesLess A.toList B.toList := by
    rw [hA, hB, str, str, ByteArray.toList_mk, ByteArray.toList_mk]; exact ⟨rfl, rfl⟩
  rw [hl.2] at hs
  clear hA hB za zb hl
  rcases hs with hlt | ⟨heq, hless⟩
  · go_enter Try.func4, Try.ntmps4
    go_wp2_with fail
    refine (zzcol_any i A w (by omega) HA.out).mono ?_
    rintro e w' ⟨rfl, rfl⟩
    go_wp2_with fail
    refine (zzcol_any j B w' (by omega) HB.out).mono ?_
    rintro e w' ⟨rfl, rfl⟩
    go_wp2
    go_ret
    exact ⟨rfl, rfl⟩
  · have HE : Hid (A.size = B.size) := heq
    have hd : ((A.size : Int) != (B.size : Int)) = false := by rw [heq]; exact bne_self_eq_false _
    clear heq
    go_enter Try.func4, Try.ntmps4
    go_wp2_with fail
    refine (zzcol_any i A w (by omega) HA.out).mono ?_
    rintro e w' ⟨rfl, rfl⟩
    go_wp2_with fail
    refine (zzcol_any j B w' (by omega) HB.out).mono ?_
    rintro e w' ⟨rfl, rfl⟩
    go_wp2
    go_ret
    exact ⟨rfl, rfl⟩

theorem law4_any (i j : Int) (h : (Lit.int .i64 i).wf = true) (h2 : (Lit.int .i64 j).wf = true) (w : World) :
    Calls Try.prog 4 #[.int .i64 i, .int .i64 j] w fun e w' => e = .returned (.bool true) ∧ Grown w w' := by
  have hb := i64_bounds h
  have hb2 := i64_bounds h2
  by_cases hn : i < 0
  · refine (law4_neg i j w hn).mono ?_
    rintro e w' ⟨he, hw⟩
    exact ⟨he, grown_of_eq hw⟩
  by_cases hle : j ≤ i
  · refine (law4_le i j w (by omega) hle).mono ?_
    rintro e w' ⟨he, hw⟩
    exact ⟨he, grown_of_eq hw⟩
  · obtain ⟨n, rfl⟩ := Int.eq_ofNat_of_zero_le (by omega : 0 ≤ i)
    obtain ⟨m, rfl⟩ := Int.eq_ofNat_of_zero_le (by omega : 0 ≤ j)
    refine (law4_main n m w (by omega) (by omega)).mono ?_
    rintro e w' ⟨he, hw⟩
    exact ⟨he, grown_of_eq hw⟩
end Go.Proofs.Qxb6600855a
