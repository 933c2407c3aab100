import Derived.Test.Qxb6600502aFrame9
namespace Go.Proofs.Qxb6600502a
open Go.RowKit

set_option maxRecDepth 10000 in
theorem or128 (c : Int) (h0 : 0 ≤ c) (h1 : c < 256) : bits .or .u8 c 128 = c % 128 + 128 := by
  obtain ⟨n, rfl⟩ := Int.eq_ofNat_of_zero_le h0
  have hn : n < 256 := by omega
  have e := u8_or_nat n 128 hn (by omega)
  have key : ∀ a : Fin 256, (a.val ||| 128) = a.val % 128 + 128 := by decide
  have k := key ⟨n, hn⟩
  simp only at k
  rw [k] at e
  simpa using e

theorem and128_lo (c : Int) (h0 : 0 ≤ c) (h1 : c < 128) : bits .and .u8 c 128 = 0 := by
  obtain ⟨n, rfl⟩ := Int.eq_ofNat_of_zero_le h0
  have hn : n < 128 := by omega
  have e := u8_and_nat n 128 (by omega) (by omega)
  have key : ∀ a : Fin 128, (a.val &&& 128) = 0 := by decide
  have k := key ⟨n, hn⟩
  simp only at k
  rw [k] at e
  simpa using e

theorem and128_hi (c : Int) (h0 : 0 ≤ c) (h1 : c < 128) : bits .and .u8 (c + 128) 128 = 128 := by
  obtain ⟨n, rfl⟩ := Int.eq_ofNat_of_zero_le h0
  have hn : n < 128 := by omega
  have e := u8_and_nat (n + 128) 128 (by omega) (by omega)
  have key : ∀ a : Fin 128, ((a.val + 128) &&& 128) = 128 := by decide
  have k := key ⟨n, hn⟩
  simp only at k
  rw [k] at e
  simpa using e

theorem and127 (c : Int) (h0 : 0 ≤ c) (h1 : c < 256) : bits .and .u8 c 127 = c % 128 := bits_mask .u8 8 (by decide) wraps_u8 7 (by decide) c h0 h1

theorem wraps_i64 (n : Int) (h₀ : 0 ≤ n) (h₁ : n < 2 ^ 31) : IntKind.i64.wrap n = n := by rw [IntKind.wrap_i64]; omega
theorem or_comm64 (a b : Int) : bits .or .i64 a b = bits .or .i64 b a := by simp [bits, BitVec.or_comm]
theorem or_zero64 (c : Int) (h0 : 0 ≤ c) (h1 : c < 128) : bits .or .i64 0 c = c := by
  have := bits_join .i64 31 (by decide) wraps_i64 7 0 c (by omega) (by omega) (by omega) h0 (by omega) (by omega)
  omega
theorem or_seven64 (v c : Int) (v0 : 0 ≤ v) (v1 : v < 128) (h0 : 0 ≤ c) (h1 : c < 128) : bits .or .i64 v (c * 128) = c * 128 + v := by
  rw [or_comm64]
  exact bits_join .i64 31 (by decide) wraps_i64 7 (c * 128) v (by omega) (by omega) (by omega) v0 (by omega) (by omega)
theorem or_fourteen64 (v c : Int) (v0 : 0 ≤ v) (v1 : v < 16384) (h0 : 0 ≤ c) (h1 : c < 128) : bits .or .i64 v (c * 16384) = c * 16384 + v := by
  rw [or_comm64]
  exact bits_join .i64 31 (by decide) wraps_i64 14 (c * 16384) v (by omega) (by omega) (by omega) v0 (by omega) (by omega)

theorem framed_msg (zs pre : List Int) (i : Nat) (hl : 5 ≤ zs.length) (hp : pre.length ≤ 5) (h : 5 ≤ i) : (framed zs pre)[i]? = zs[i]? := by
  unfold framed
  rw [← List.append_assoc, List.getElem?_append_right (by simp; omega), List.getElem?_drop]
  congr 1
  simp
  omega

theorem zzbytes21 (a : Option Addr) (len cap : Nat) (w : World) (h : len ≤ 1048576) :
    Calls Try.prog 21 #[.slice a len cap] w fun e w' => e = .returned (.bool true) ∧ w' = w := by
  go_enter Try.func21, Try.ntmps21
  go_wp2
  go_ret
  exact ⟨rfl, rfl⟩

theorem prefixLen_1 (n : Int) (w : World) (h1 : n < 128) :
    Calls Try.prog 23 #[.int .i64 n] w fun e w' => e = .returned (.int .i64 1) ∧ w' = w := by
  go_enter Try.func23, Try.ntmps23
  go_wp2
  go_ret
  exact ⟨rfl, rfl⟩

theorem prefixLen_2 (n : Int) (w : World) (h1 : 128 ≤ n) (h2 : n < 16384) :
    Calls Try.prog 23 #[.int .i64 n] w fun e w' => e = .returned (.int .i64 2) ∧ w' = w := by
  go_enter Try.func23, Try.ntmps23
  go_wp2
  go_ret
  exact ⟨rfl, rfl⟩

theorem prefixLen_3 (n : Int) (w : World) (h1 : 16384 ≤ n) (h2 : n < 2097152) :
    Calls Try.prog 23 #[.int .i64 n] w fun e w' => e = .returned (.int .i64 3) ∧ w' = w := by
  go_enter Try.func23, Try.ntmps23
  go_wp2
  go_ret
  exact ⟨rfl, rfl⟩

theorem zzframe_1 (g L : Nat) (zs : List Int) (w : World) (hL : zs.length = L) (h1 : 5 ≤ L) (h2 : L < 133) (hg : RowB w g zs) :
    Calls Try.prog 22 #[.slice (some ⟨g, 0, none⟩) L L] w fun e w' => e = .returned (.slice (some ⟨g, 4, none⟩) (L - 4) (L - 4)) ∧
      RowB w' g (framed zs [(L : Int) - 5]) ∧ w.grownBy w' (some g) := by
  go_enter Try.func22, Try.ntmps22
  go_wp2_with fail
  refine (frame_1 g L zs w hL h1 h2 hg).mono ?_
  rintro e w' ⟨rfl, hr, hw⟩
  go_wp2
  go_ret
  exact ⟨rfl, hr, hw⟩

theorem zzframe_2 (g L : Nat) (zs : List Int) (w : World) (hL : zs.length = L) (h1 : 133 ≤ L) (h2 : L < 16389) (hg : RowB w g zs) :
    Calls Try.prog 22 #[.slice (some ⟨g, 0, none⟩) L L] w fun e w' => e = .returned (.slice (some ⟨g, 3, none⟩) (L - 3) (L - 3)) ∧
      RowB w' g (framed zs [((L : Int) - 5) % 128 + 128, ((L : Int) - 5) / 128]) ∧ w.grownBy w' (some g) := by
  go_enter Try.func22, Try.ntmps22
  go_wp2_with fail
  refine (frame_2 g L zs w hL (by omega) h1 h2 hg).mono ?_
  rintro e w' ⟨rfl, hr, hw⟩
  have e1 := or128 (((L : Int) - 5) % 256) (by omega) (by omega)
  rw [e1, show ((L : Int) - 5) % 256 % 128 = ((L : Int) - 5) % 128 by omega] at hr
  clear e1
  go_wp2
  go_ret
  exact ⟨rfl, hr, hw⟩

theorem zzframe_3 (g L : Nat) (zs : List Int) (w : World) (hL : zs.length = L) (h1 : 16389 ≤ L) (h2 : L ≤ 1048576) (hg : RowB w g zs) :
    Calls Try.prog 22 #[.slice (some ⟨g, 0, none⟩) L L] w fun e w' => e = .returned (.slice (some ⟨g, 2, none⟩) (L - 2) (L - 2)) ∧
      RowB w' g (framed zs [((L : Int) - 5) % 128 + 128, ((L : Int) - 5) / 128 % 128 + 128, ((L : Int) - 5) / 128 / 128]) ∧ w.grownBy w' (some g) := by
  go_enter Try.func22, Try.ntmps22
  go_wp2_with fail
  refine (frame_3 g L zs w hL h1 h2 hg).mono ?_
  rintro e w' ⟨rfl, hr, hw⟩
  have e1 := or128 (((L : Int) - 5) % 256) (by omega) (by omega)
  have e2 := or128 (((L : Int) - 5) / 128 % 256) (by omega) (by omega)
  rw [e1, e2, show ((L : Int) - 5) % 256 % 128 = ((L : Int) - 5) % 128 by omega, show ((L : Int) - 5) / 128 % 256 % 128 = ((L : Int) - 5) / 128 % 128 by omega] at hr
  clear e1 e2
  go_wp2
  go_ret
  exact ⟨rfl, hr, hw⟩

set_option maxHeartbeats 400000 in
theorem law8_1 (x : Addr) (L cap : Nat) (zs : List Int) (w : World) (hL : zs.length = L) (h1 : 5 ≤ L) (h2 : L < 133)
    (hc : ∀ i, i < zs.length → w.cell? (x.add i) = some (.int .u8 (zs.getD i 0))) :
    Calls Try.prog 8 #[.slice (some x) L cap] w fun e w' => e = .returned (.bool true) ∧ Below w.heap.size w w' := by
  have HL : Hid (zs.length = L) := hL
  have HC : Hid (∀ i, i < zs.length → w.cell? (x.add i) = some (.int .u8 (zs.getD i 0))) := hc
  clear hL hc
  obtain ⟨c0, hc0⟩ : ∃ c : Int, c = (L : Int) - 5 := ⟨_, rfl⟩
  have b0 : 0 ≤ c0 ∧ c0 < 128 := by omega
  have K0 : Hid (c0 = (L : Int) - 5) := hc0
  clear hc0
  go_enter Try.func8, Try.ntmps8
  go_wp2_with fail
  refine (zzbytes21 _ _ _ _ (by omega)).mono ?_
  rintro e w' ⟨rfl, rfl⟩
  go_wp2_with fail
  refine (clone_any x L cap zs w' HL.out (by omega) HC.out).mono ?_
  rintro e w1 ⟨rfl, hr1, hs1, hb1⟩
  have HR1 : Hid (RowB w1 w'.heap.size zs) := hr1
  have HS1 : Hid (w1.heap.size = w'.heap.size + 1) := hs1
  have HB1 : Hid (Below w'.heap.size w' w1) := hb1
  clear hr1 hs1 hb1
  go_wp2_with fail
  refine (clone_any ⟨w'.heap.size, 0, none⟩ L L zs w1 HL.out (by omega) (cell0 HR1.out)).mono ?_
  rintro e w2 ⟨rfl, hr2, hs2, hb2⟩
  have HR2 : Hid (RowB w2 w1.heap.size zs) := hr2
  have HS2 : Hid (w2.heap.size = w1.heap.size + 1) := hs2
  have HB2 : Hid (Below w1.heap.size w1 w2) := hb2
  clear hr2 hs2 hb2
  go_wp2_with fail
  refine (zzframe_1 w1.heap.size L zs w2 HL.out h1 h2 HR2.out).mono ?_
  rintro e w3 ⟨rfl, hr3, hg3⟩
  rw [← K0.out] at hr3
  have HRA : Hid (RowB w3 w'.heap.size zs) := by
    have hlt := HR1.out.lt
    exact grown_row (HR1.out.of_block (HB2.out.block _ hlt)) hg3 (by omega)
  obtain ⟨ys, hys⟩ : ∃ ys, ys = framed zs [c0] := ⟨_, rfl⟩
  have HYS : Hid (ys = framed zs [c0]) := hys
  rw [← hys] at hr3
  have HRB : Hid (RowB w3 w1.heap.size ys) := hr3
  have HG3 : Hid (w2.grownBy w3 (some w1.heap.size)) := hg3
  clear hr3 hg3 hys
  go_wp2_with fail
  refine (prefixLen_1 _ _ (by omega)).mono ?_
  rintro e w4 ⟨rfl, rfl⟩
  have hA0 := and128_lo c0 b0.1 b0.2
  have hB0 := and127 c0 (by omega) (by omega)
  rw [show c0 % 128 = c0 by omega] at hB0
  have cl0 : w4.cell? ⟨w1.heap.size, 4, none⟩ = some (.int .u8 c0) := by
    have hl := HL.out
    have hlen : ys.length = L := by rw [HYS.out]; simp [framed]; omega
    rw [HRB.out.cell (by omega), HYS.out]
    simp [framed, show min 4 zs.length = 4 by omega]
  have o0 := or_zero64 c0 b0.1 b0.2
  rw [K0.out] at o0 cl0 hA0 hB0
  go_wp2_with fail
  go_rounds 4
  clear o0 hA0 hB0 cl0
  go_loopw [11] (fun i wr => ∃ k nq : Nat, k ≤ L - 5 ∧ i = .int .i64 k ∧ wr = w4.drewN nq) (fun i _ => (L - 5) - (intOf i).toNat)
  case atStart => exact ⟨0, 0, Nat.zero_le _, rfl, rfl⟩
  case round =>
    obtain ⟨k, nq, hk, rfl, rfl⟩ := hrel
    by_cases hlt : k < L - 5
    · have hcA := HRA.out.cell (j := 5 + k) (by have := HL.out; omega)
      have hcB : w4.cell? ⟨w1.heap.size, 4 + (1 + k), none⟩ = some (.int .u8 (zs[5 + k]?.getD 0)) := by
        rw [show 4 + (1 + k) = 5 + k by omega, HRB.out.cell (by have := HL.out; rw [HYS.out]; simp [framed]; omega), HYS.out, framed_msg zs _ (5 + k) (by have := HL.out; omega) (by simp) (by omega)]
      have hi : (5 : Int) + (k : Int) < (L : Int) := by omega
      have hi2 : (1 : Int) + (k : Int) < ((L - 4 : Nat) : Int) := by omega
      go_wp2
      go_quiet (fail)
      go_wp2
      go_roundw
      case rel => exact ⟨k + 1, _, by omega, by go_num, rfl⟩
      case measure => simp [intOf]; omega
    · go_wp2
      go_ret
      refine ⟨rfl, ?_⟩
      have hs1 := HS1.out
      have hs2 := HS2.out
      have b3 : Below w'.heap.size w' w4 := (HB1.out.trans (HB2.out.mono (by omega))).grown HG3.out (by omega) (by rintro k ⟨⟩; omega)
      exact below_drewN b3 _

set_option maxHeartbeats 400000 in
theorem law8_2 (x : Addr) (L cap : Nat) (zs : List Int) (w : World) (hL : zs.length = L) (h1 : 133 ≤ L) (h2 : L < 16389)
    (hc : ∀ i, i < zs.length → w.cell? (x.add i) = some (.int .u8 (zs.getD i 0))) :
    Calls Try.prog 8 #[.slice (some x) L cap] w fun e w' => e = .returned (.bool true) ∧ Below w.heap.size w w' := by
  have HL : Hid (zs.length = L) := hL
  have HC : Hid (∀ i, i < zs.length → w.cell? (x.add i) = some (.int .u8 (zs.getD i 0))) := hc
  clear hL hc
  obtain ⟨c0, hc0⟩ : ∃ c : Int, c = ((L : Int) - 5) % 128 := ⟨_, rfl⟩
  obtain ⟨c1, hc1⟩ : ∃ c : Int, c = ((L : Int) - 5) / 128 := ⟨_, rfl⟩
  have hv : c0 + c1 * 128 = (L : Int) - 5 := by omega
  have b0 : 0 ≤ c0 ∧ c0 < 128 := by omega
  have b1 : 0 ≤ c1 ∧ c1 < 128 := by omega
  have K0 : Hid (c0 = ((L : Int) - 5) % 128) := hc0
  have K1 : Hid (c1 = ((L : Int) - 5) / 128) := hc1
  have HV : Hid (c0 + c1 * 128 = (L : Int) - 5) := hv
  clear hc0 hc1 hv
  go_enter Try.func8, Try.ntmps8
  go_wp2_with fail
  refine (zzbytes21 _ _ _ _ (by omega)).mono ?_
  rintro e w' ⟨rfl, rfl⟩
  go_wp2_with fail
  refine (clone_any x L cap zs w' HL.out (by omega) HC.out).mono ?_
  rintro e w1 ⟨rfl, hr1, hs1, hb1⟩
  have HR1 : Hid (RowB w1 w'.heap.size zs) := hr1
  have HS1 : Hid (w1.heap.size = w'.heap.size + 1) := hs1
  have HB1 : Hid (Below w'.heap.size w' w1) := hb1
  clear hr1 hs1 hb1
  go_wp2_with fail
  refine (clone_any ⟨w'.heap.size, 0, none⟩ L L zs w1 HL.out (by omega) (cell0 HR1.out)).mono ?_
  rintro e w2 ⟨rfl, hr2, hs2, hb2⟩
  have HR2 : Hid (RowB w2 w1.heap.size zs) := hr2
  have HS2 : Hid (w2.heap.size = w1.heap.size + 1) := hs2
  have HB2 : Hid (Below w1.heap.size w1 w2) := hb2
  clear hr2 hs2 hb2
  go_wp2_with fail
  refine (zzframe_2 w1.heap.size L zs w2 HL.out h1 h2 HR2.out).mono ?_
  rintro e w3 ⟨rfl, hr3, hg3⟩
  rw [← K0.out, ← K1.out] at hr3
  have HRA : Hid (RowB w3 w'.heap.size zs) := by
    have hlt := HR1.out.lt
    exact grown_row (HR1.out.of_block (HB2.out.block _ hlt)) hg3 (by omega)
  obtain ⟨ys, hys⟩ : ∃ ys, ys = framed zs [c0 + 128, c1] := ⟨_, rfl⟩
  have HYS : Hid (ys = framed zs [c0 + 128, c1]) := hys
  rw [← hys] at hr3
  have HRB : Hid (RowB w3 w1.heap.size ys) := hr3
  have HG3 : Hid (w2.grownBy w3 (some w1.heap.size)) := hg3
  clear hr3 hg3 hys
  go_wp2_with fail
  refine (prefixLen_2 _ _ (by omega) (by omega)).mono ?_
  rintro e w4 ⟨rfl, rfl⟩
  have hA0 := and128_hi c0 b0.1 b0.2
  have hA1 := and128_lo c1 b1.1 b1.2
  have hB0 := and127 (c0 + 128) (by omega) (by omega)
  have hB1 := and127 c1 (by omega) (by omega)
  rw [show (c0 + 128) % 128 = c0 by omega] at hB0
  rw [show c1 % 128 = c1 by omega] at hB1
  have hcell : w4.cell? ⟨w1.heap.size, 3, none⟩ = some (.int .u8 (c0 + 128)) ∧ w4.cell? ⟨w1.heap.size, 4, none⟩ = some (.int .u8 c1) := by
    have hl := HL.out
    have hlen : ys.length = L := by rw [HYS.out]; simp [framed]; omega
    rw [HRB.out.cell (by omega), HRB.out.cell (by omega), HYS.out]
    refine ⟨?_, ?_⟩ <;> simp [framed, List.getElem?_append, show min 3 zs.length = 3 by omega]
  obtain ⟨cl0, cl1⟩ := hcell
  have o0 := or_zero64 c0 b0.1 b0.2
  have o1 : bits .or .i64 c0 (c1 * 128) = (L : Int) - 5 := by
    rw [or_seven64 c0 c1 b0.1 b0.2 b1.1 b1.2]
    have := HV.out
    omega
  go_wp2_with fail
  go_rounds 4
  clear o0 o1 hA0 hA1 hB0 hB1 cl0 cl1
  go_loopw [11] (fun i wr => ∃ k nq : Nat, k ≤ L - 5 ∧ i = .int .i64 k ∧ wr = w4.drewN nq) (fun i _ => (L - 5) - (intOf i).toNat)
  case atStart => exact ⟨0, 0, Nat.zero_le _, rfl, rfl⟩
  case round =>
    obtain ⟨k, nq, hk, rfl, rfl⟩ := hrel
    by_cases hlt : k < L - 5
    · have hcA := HRA.out.cell (j := 5 + k) (by have := HL.out; omega)
      have hcB : w4.cell? ⟨w1.heap.size, 3 + (2 + k), none⟩ = some (.int .u8 (zs[5 + k]?.getD 0)) := by
        rw [show 3 + (2 + k) = 5 + k by omega, HRB.out.cell (by have := HL.out; rw [HYS.out]; simp [framed]; omega), HYS.out, framed_msg zs _ (5 + k) (by have := HL.out; omega) (by simp) (by omega)]
      have hi : (5 : Int) + (k : Int) < (L : Int) := by omega
      have hi2 : (2 : Int) + (k : Int) < ((L - 3 : Nat) : Int) := by omega
      go_wp2
      go_quiet (fail)
      go_wp2
      go_roundw
      case rel => exact ⟨k + 1, _, by omega, by go_num, rfl⟩
      case measure => simp [intOf]; omega
    · go_wp2
      go_ret
      refine ⟨rfl, ?_⟩
      have hs1 := HS1.out
      have hs2 := HS2.out
      have b3 : Below w'.heap.size w' w4 := (HB1.out.trans (HB2.out.mono (by omega))).grown HG3.out (by omega) (by rintro k ⟨⟩; omega)
      exact below_drewN b3 _

set_option maxHeartbeats 400000 in
theorem law8_3 (x : Addr) (L cap : Nat) (zs : List Int) (w : World) (hL : zs.length = L) (h1 : 16389 ≤ L) (h2 : L ≤ 1048576)
    (hc : ∀ i, i < zs.length → w.cell? (x.add i) = some (.int .u8 (zs.getD i 0))) :
    Calls Try.prog 8 #[.slice (some x) L cap] w fun e w' => e = .returned (.bool true) ∧ Below w.heap.size w w' := by
  have HL : Hid (zs.length = L) := hL
  have HC : Hid (∀ i, i < zs.length → w.cell? (x.add i) = some (.int .u8 (zs.getD i 0))) := hc
  clear hL hc
  obtain ⟨c0, hc0⟩ : ∃ c : Int, c = ((L : Int) - 5) % 128 := ⟨_, rfl⟩
  obtain ⟨c1, hc1⟩ : ∃ c : Int, c = ((L : Int) - 5) / 128 % 128 := ⟨_, rfl⟩
  obtain ⟨c2, hc2⟩ : ∃ c : Int, c = ((L : Int) - 5) / 128 / 128 := ⟨_, rfl⟩
  have hv : c0 + c1 * 128 + c2 * 16384 = (L : Int) - 5 := by omega
  have b0 : 0 ≤ c0 ∧ c0 < 128 := by omega
  have b1 : 0 ≤ c1 ∧ c1 < 128 := by omega
  have b2 : 0 ≤ c2 ∧ c2 < 128 := by omega
  have K0 : Hid (c0 = ((L : Int) - 5) % 128) := hc0
  have K1 : Hid (c1 = ((L : Int) - 5) / 128 % 128) := hc1
  have K2 : Hid (c2 = ((L : Int) - 5) / 128 / 128) := hc2
  have HV : Hid (c0 + c1 * 128 + c2 * 16384 = (L : Int) - 5) := hv
  clear hc0 hc1 hc2 hv
  go_enter Try.func8, Try.ntmps8
  go_wp2_with fail
  refine (zzbytes21 _ _ _ _ h2).mono ?_
  rintro e w' ⟨rfl, rfl⟩
  go_wp2_with fail
  refine (clone_any x L cap zs w' HL.out h2 HC.out).mono ?_
  rintro e w1 ⟨rfl, hr1, hs1, hb1⟩
  have HR1 : Hid (RowB w1 w'.heap.size zs) := hr1
  have HS1 : Hid (w1.heap.size = w'.heap.size + 1) := hs1
  have HB1 : Hid (Below w'.heap.size w' w1) := hb1
  clear hr1 hs1 hb1
  go_wp2_with fail
  refine (clone_any ⟨w'.heap.size, 0, none⟩ L L zs w1 HL.out h2 (cell0 HR1.out)).mono ?_
  rintro e w2 ⟨rfl, hr2, hs2, hb2⟩
  have HR2 : Hid (RowB w2 w1.heap.size zs) := hr2
  have HS2 : Hid (w2.heap.size = w1.heap.size + 1) := hs2
  have HB2 : Hid (Below w1.heap.size w1 w2) := hb2
  clear hr2 hs2 hb2
  go_wp2_with fail
  refine (zzframe_3 w1.heap.size L zs w2 HL.out h1 h2 HR2.out).mono ?_
  rintro e w3 ⟨rfl, hr3, hg3⟩
  rw [← K0.out, ← K1.out, ← K2.out] at hr3
  have HRA : Hid (RowB w3 w'.heap.size zs) := by
    have hlt := HR1.out.lt
    exact grown_row (HR1.out.of_block (HB2.out.block _ hlt)) hg3 (by omega)
  obtain ⟨ys, hys⟩ : ∃ ys, ys = framed zs [c0 + 128, c1 + 128, c2] := ⟨_, rfl⟩
  have HYS : Hid (ys = framed zs [c0 + 128, c1 + 128, c2]) := hys
  rw [← hys] at hr3
  have HRB : Hid (RowB w3 w1.heap.size ys) := hr3
  have HG3 : Hid (w2.grownBy w3 (some w1.heap.size)) := hg3
  clear hr3 hg3 hys
  go_wp2_with fail
  refine (prefixLen_3 _ _ (by omega) (by omega)).mono ?_
  rintro e w4 ⟨rfl, rfl⟩
  have hA0 := and128_hi c0 b0.1 b0.2
  have hA1 := and128_hi c1 b1.1 b1.2
  have hA2 := and128_lo c2 b2.1 b2.2
  have hB0 := and127 (c0 + 128) (by omega) (by omega)
  have hB1 := and127 (c1 + 128) (by omega) (by omega)
  have hB2 := and127 c2 (by omega) (by omega)
  rw [show (c0 + 128) % 128 = c0 by omega] at hB0
  rw [show (c1 + 128) % 128 = c1 by omega] at hB1
  rw [show c2 % 128 = c2 by omega] at hB2
  have hcell : w4.cell? ⟨w1.heap.size, 2, none⟩ = some (.int .u8 (c0 + 128)) ∧ w4.cell? ⟨w1.heap.size, 3, none⟩ = some (.int .u8 (c1 + 128)) ∧ w4.cell? ⟨w1.heap.size, 4, none⟩ = some (.int .u8 c2) := by
    have hl := HL.out
    have hlen : ys.length = L := by rw [HYS.out]; simp [framed]; omega
    rw [HRB.out.cell (by omega), HRB.out.cell (by omega), HRB.out.cell (by omega), HYS.out]
    refine ⟨?_, ?_, ?_⟩ <;> simp [framed, List.getElem?_append, show min 2 zs.length = 2 by omega]
  obtain ⟨cl0, cl1, cl2⟩ := hcell
  have o0 := or_zero64 c0 b0.1 b0.2
  have o1 := or_seven64 c0 c1 b0.1 b0.2 b1.1 b1.2
  obtain ⟨v1, hv1⟩ : ∃ v, v = c1 * 128 + c0 := ⟨_, rfl⟩
  rw [← hv1] at o1
  have o2 : bits .or .i64 v1 (c2 * 16384) = (L : Int) - 5 := by
    rw [or_fourteen64 v1 c2 (by omega) (by omega) b2.1 b2.2]
    have := HV.out
    omega
  clear hv1
  go_wp2_with fail
  go_rounds 4
  clear o0 o1 o2 hA0 hA1 hA2 hB0 hB1 hB2 cl0 cl1 cl2
  go_loopw [11] (fun i wr => ∃ k nq : Nat, k ≤ L - 5 ∧ i = .int .i64 k ∧ wr = w4.drewN nq) (fun i _ => (L - 5) - (intOf i).toNat)
  case atStart => exact ⟨0, 0, Nat.zero_le _, rfl, rfl⟩
  case round =>
    obtain ⟨k, nq, hk, rfl, rfl⟩ := hrel
    by_cases hlt : k < L - 5
    · have hcA := HRA.out.cell (j := 5 + k) (by have := HL.out; omega)
      have hcB : w4.cell? ⟨w1.heap.size, 2 + (3 + k), none⟩ = some (.int .u8 (zs[5 + k]?.getD 0)) := by
        rw [show 2 + (3 + k) = 5 + k by omega, HRB.out.cell (by have := HL.out; rw [HYS.out]; simp [framed]; omega), HYS.out, framed_msg zs _ (5 + k) (by have := HL.out; omega) (by simp) (by omega)]
      have hi : (5 : Int) + (k : Int) < (L : Int) := by omega
      have hi2 : (3 : Int) + (k : Int) < ((L - 2 : Nat) : Int) := by omega
      go_wp2
      go_quiet (fail)
      go_wp2
      go_roundw
      case rel => exact ⟨k + 1, _, by omega, by go_num, rfl⟩
      case measure => simp [intOf]; omega
    · go_wp2
      go_ret
      refine ⟨rfl, ?_⟩
      have hs1 := HS1.out
      have hs2 := HS2.out
      have b3 : Below w'.heap.size w' w4 := (HB1.out.trans (HB2.out.mono (by omega))).grown HG3.out (by omega) (by rintro k ⟨⟩; omega)
      exact below_drewN b3 _

set_option maxHeartbeats 400000 in
theorem law8_long (a : Option Addr) (len cap : Nat) (w : World) (h : 1048576 < len) (hm : len ≤ maxLen) :
    Calls Try.prog 8 #[.slice a len cap] w fun e w' => e = .returned (.bool true) ∧ w' = w := by
  unfold maxLen at hm
  go_enter Try.func8, Try.ntmps8
  go_wp2
  go_ret
  exact ⟨rfl, rfl⟩

set_option maxHeartbeats 400000 in
theorem law8_short (a : Option Addr) (len cap : Nat) (w : World) (h : len < 5) :
    Calls Try.prog 8 #[.slice a len cap] w fun e w' => e = .returned (.bool true) ∧ w' = w := by
  go_enter Try.func8, Try.ntmps8
  go_wp2
  go_ret
  exact ⟨rfl, rfl⟩

theorem law8_any (a : Option Addr) (len cap : Nat) (zs : List Int) (w : World)
    (h : (a = none ∧ len = 0 ∧ cap = 0 ∧ zs = []) ∨ ∃ x, a = some x ∧ len ≤ cap ∧ cap ≤ maxLen ∧ zs.length = cap ∧ (∀ i, i < zs.length → w.cell? (x.add i) = some (.int .u8 (zs.getD i 0))) ∧ ∀ n ∈ zs, (Lit.int .u8 n).wf = true) :
    Calls Try.prog 8 #[.slice a len cap] w fun e w' => e = .returned (.bool true) ∧ Below w.heap.size w w' := by
  rcases h with ⟨rfl, rfl, rfl, rfl⟩ | ⟨x, rfl, hlc, hcm, hz, hc, _⟩
  · refine (law8_short none 0 0 w (by omega)).mono ?_
    rintro e w' ⟨he, rfl⟩
    exact ⟨he, Below.refl _ _⟩
  · by_cases c1 : len < 5
    · refine (law8_short (some x) len cap w c1).mono ?_
      rintro e w' ⟨he, rfl⟩
      exact ⟨he, Below.refl _ _⟩
    by_cases c2 : 1048576 < len
    · refine (law8_long (some x) len cap w c2 (by omega)).mono ?_
      rintro e w' ⟨he, rfl⟩
      exact ⟨he, Below.refl _ _⟩
    by_cases c3 : len < 133
    · exact law8_1 x len cap (zs.take len) w (by simp; omega) (by omega) c3 (take_cells (by omega) hc)
    by_cases c4 : len < 16389
    · exact law8_2 x len cap (zs.take len) w (by simp; omega) (by omega) c4 (take_cells (by omega) hc)
    · exact law8_3 x len cap (zs.take len) w (by simp; omega) (by omega) (by omega) (take_cells (by omega) hc)
end Go.Proofs.Qxb6600502a
