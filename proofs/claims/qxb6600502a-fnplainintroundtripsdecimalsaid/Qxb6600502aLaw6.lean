import Derived.Test.Qxb6600502aDecText
import Derived.Test.Qxb6600502aLaw3
namespace Go.Proofs.Qxb6600502a
open Go.RowKit

theorem zzplain_pos (g M : Nat) (D : List Int) (V : Int) (w : World) (hM : D.length = M) (h1 : 1 ≤ M) (h18 : M ≤ 18) (hD : Num.isDigits D) (hV : Num.vd 0 D = V)
    (hc : ∀ j, j < D.length → w.cell? ⟨g, j, none⟩ = some (.int .u8 (D[j]?.getD 0))) :
    Calls Try.prog 17 #[.slice (some ⟨g, 0, none⟩) M M] w fun e w' => e = .returned (.tuple #[.int .i64 V, .bool true]) ∧ Below w.heap.size w w' := by
  have H := plain_pos g M D V w hM h1 h18 hD hV hc
  have HH : Hid (Calls Try.prog 28 #[.slice (some ⟨g, 0, none⟩) M M] w fun e w' => e = .returned (.tuple #[.int .i64 V, .bool true]) ∧ Below w.heap.size w w') := H
  clear H hM h1 h18 hD hV hc
  go_enter Try.func17, Try.ntmps17
  go_wp2_with fail
  refine HH.out.mono ?_
  rintro e w' ⟨rfl, hb⟩
  go_wp2
  go_ret2
  exact ⟨rfl, hb⟩

theorem zzplain_neg (g M : Nat) (D : List Int) (V : Int) (w : World) (hM : D.length = M) (h1 : 1 ≤ M) (h18 : M ≤ 18) (hD : Num.isDigits D) (hV : Num.vd 0 D = V)
    (h45 : w.cell? ⟨g, 0, none⟩ = some (.int .u8 45)) (hc : ∀ j, j < D.length → w.cell? ⟨g, 1 + j, none⟩ = some (.int .u8 (D[j]?.getD 0))) :
    Calls Try.prog 17 #[.slice (some ⟨g, 0, none⟩) (M + 1) (M + 1)] w fun e w' => e = .returned (.tuple #[.int .i64 (-V), .bool true]) ∧ Below w.heap.size w w' := by
  have H := plain_neg g M D V w hM h1 h18 hD hV h45 hc
  have HH : Hid (Calls Try.prog 28 #[.slice (some ⟨g, 0, none⟩) (M + 1) (M + 1)] w fun e w' => e = .returned (.tuple #[.int .i64 (-V), .bool true]) ∧ Below w.heap.size w w') := H
  clear H hM h1 h18 hD hV h45 hc
  go_enter Try.func17, Try.ntmps17
  go_wp2_with fail
  refine HH.out.mono ?_
  rintro e w' ⟨rfl, hb⟩
  go_wp2
  go_ret2
  exact ⟨rfl, hb⟩

set_option maxHeartbeats 400000 in
theorem law6_out (v : Int) (w : World) (h : 999999999999999999 < v ∨ v < -999999999999999999) :
    Calls Try.prog 6 #[.int .i64 v] w fun e w' => e = .returned (.bool true) ∧ w' = w := by
  rcases h with h | h
  · go_enter Try.func6, Try.ntmps6
    go_wp2
    go_ret
    exact ⟨rfl, rfl⟩
  · go_enter Try.func6, Try.ntmps6
    go_wp2
    go_ret
    exact ⟨rfl, rfl⟩

theorem ans_len (T : List Int) (n : Nat) (h : Num.scan T = some T.length) (hn : T.length = n) : Num.ans (Num.scan T) = (n : Int) := by
  rw [h, hn]; rfl

set_option maxHeartbeats 400000 in
theorem law6_pos (N : Nat) (w : World) (hN : N ≤ 999999999999999999) :
    Calls Try.prog 6 #[.int .i64 N] w fun e w' => e = .returned (.bool true) ∧ Below w.heap.size w w' := by
  obtain ⟨T, hT⟩ : ∃ T, Num.txt 17 N = T := ⟨_, rfl⟩
  obtain ⟨n, hn⟩ : ∃ n, T.length = n := ⟨_, rfl⟩
  have hlen := Num.txt_length 17 N
  rw [hT, hn] at hlen
  obtain ⟨hn1, hn2⟩ := hlen
  have HD : Hid (Num.isDigits T) := by show Num.isDigits T; rw [← hT]; exact Num.txt_digits 17 N
  have HV : Hid (Num.vd 0 T = (N : Int)) := by show _ = _; rw [← hT]; exact Num.vd_txt 17 N (by show N < 10 ^ 18; omega)
  have HS : Hid (Num.scan T = some T.length) := by
    have hh := Num.txt_head 17 N (by show N < 10 ^ 18; omega)
    rw [hT] at hh
    have h48 : (48 : Int) ≤ T[0]?.getD 0 := by
      have := HD.out (T[0]?.getD 0) (by rw [List.getElem?_eq_getElem (by omega)]; simp)
      exact this.1
    exact Num.scan_whole T T 0 (by unfold Num.S0; rw [if_neg (by omega)]) (by simp) HD.out (by omega) hh
  have HT : Hid (Num.txt 17 N = T) := hT
  have Hn : Hid (T.length = n) := hn
  clear hT hn
  go_enter Try.func6, Try.ntmps6
  go_wp2_with fail
  refine (dec_pos N T n w hN HT.out Hn.out).mono ?_
  rintro e w1 ⟨rfl, hr1, hb1⟩
  have HR1 : Hid (RowB w1 (w.heap.size + 1) T) := hr1
  have HB1 : Hid (Below w.heap.size w w1) := hb1
  clear hr1 hb1
  go_wp2_with fail
  refine (zzplain_pos (w.heap.size + 1) n T N w1 Hn.out hn1 hn2 HD.out HV.out HR1.out.bytes).mono ?_
  rintro e w2 ⟨rfl, hb2⟩
  have HB2 : Hid (Below w1.heap.size w1 w2) := hb2
  have HR2 : Hid (RowB w2 (w.heap.size + 1) T) := HR1.out.of_block (hb2.block _ HR1.out.lt)
  clear hb2
  go_wp2_with fail
  refine (zzscan_any (w.heap.size + 1) n n T n w2 Hn.out (by omega) hn1 HR2.out.bytes (ans_len T n HS.out Hn.out)).mono ?_
  rintro e w3 ⟨rfl, rfl⟩
  go_wp2
  go_ret
  exact ⟨rfl, HB1.out.trans (HB2.out.mono HB1.out.size)⟩

set_option maxHeartbeats 400000 in
theorem law6_neg (v : Int) (w : World) (h0 : v < 0) (hv1 : -999999999999999999 ≤ v) :
    Calls Try.prog 6 #[.int .i64 v] w fun e w' => e = .returned (.bool true) ∧ Below w.heap.size w w' := by
  obtain ⟨N, hvN⟩ : ∃ N : Nat, -v = (N : Int) := ⟨(-v).toNat, by omega⟩
  obtain ⟨T, hT⟩ : ∃ T, Num.txt 17 N = T := ⟨_, rfl⟩
  obtain ⟨n, hn⟩ : ∃ n, T.length = n := ⟨_, rfl⟩
  have hlen := Num.txt_length 17 N
  rw [hT, hn] at hlen
  obtain ⟨hn1, hn2⟩ := hlen
  have HD : Hid (Num.isDigits T) := by show Num.isDigits T; rw [← hT]; exact Num.txt_digits 17 N
  have HV : Hid (Num.vd 0 T = -v) := by show _ = _; rw [← hT, hvN]; exact Num.vd_txt 17 N (by show N < 10 ^ 18; omega)
  have HS : Hid (Num.scan (45 :: T) = some (45 :: T).length) := by
    have hh := Num.txt_head 17 N (by show N < 10 ^ 18; omega)
    rw [hT] at hh
    exact Num.scan_whole (45 :: T) T 1 (by unfold Num.S0; rw [if_pos (by simp)]) (by simp) HD.out (by omega) hh
  have HT : Hid (Num.txt 17 N = T) := hT
  have Hn : Hid (T.length = n) := hn
  have HVN : Hid (-v = (N : Int)) := hvN
  clear hT hn hvN
  go_enter Try.func6, Try.ntmps6
  go_wp2_with fail
  refine (dec_neg v N T (n + 1) w h0 hv1 HVN.out HT.out (by rw [Hn.out])).mono ?_
  rintro e w1 ⟨rfl, hr1, hb1⟩
  have HR1 : Hid (RowB w1 (w.heap.size + 1) (45 :: T)) := hr1
  have HB1 : Hid (Below w.heap.size w w1) := hb1
  clear hr1 hb1
  go_wp2_with fail
  refine (zzplain_neg (w.heap.size + 1) n T (-v) w1 Hn.out hn1 hn2 HD.out HV.out (by have h := HR1.out.cell (j := 0) (by simp); simpa using h) ?_).mono ?_
  · intro j hj
    have h := HR1.out.cell (j := 1 + j) (by simp; omega)
    rw [h, show 1 + j = j + 1 by omega, List.getElem?_cons_succ]
  rintro e w2 ⟨rfl, hb2⟩
  have HB2 : Hid (Below w1.heap.size w1 w2) := hb2
  have HR2 : Hid (RowB w2 (w.heap.size + 1) (45 :: T)) := HR1.out.of_block (hb2.block _ HR1.out.lt)
  clear hb2
  go_wp2_with fail
  refine (zzscan_any (w.heap.size + 1) (n + 1) (n + 1) (45 :: T) ((n + 1 : Nat) : Int) w2 (by rw [List.length_cons, Hn.out]) (by omega) (by omega) HR2.out.bytes (ans_len _ _ HS.out (by rw [List.length_cons, Hn.out]))).mono ?_
  rintro e w3 ⟨rfl, rfl⟩
  go_wp2
  go_ret
  exact ⟨rfl, HB1.out.trans (HB2.out.mono HB1.out.size)⟩

theorem law6_any (v : Int) (w : World) :
    Calls Try.prog 6 #[.int .i64 v] w fun e w' => e = .returned (.bool true) ∧ Below w.heap.size w w' := by
  by_cases h1 : 999999999999999999 < v ∨ v < -999999999999999999
  · refine (law6_out v w h1).mono ?_
    rintro e w' ⟨he, rfl⟩
    exact ⟨he, Below.refl _ _⟩
  by_cases h2 : v < 0
  · exact law6_neg v w h2 (by omega)
  · obtain ⟨N, rfl⟩ := Int.eq_ofNat_of_zero_le (by omega : 0 ≤ v)
    exact law6_pos N w (by omega)
end Go.Proofs.Qxb6600502a
