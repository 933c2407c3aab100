import Derived.Test.Qxb6600502aCut
import Derived.Test.Qxb6600502aDec
namespace Go.Proofs.Qxb6600502a
open Go.RowKit

theorem pow10 (k m : Nat) (h : k ≤ m) : (10 : Int) ^ k ≤ 10 ^ m := by
  have := Nat.pow_le_pow_right (n := 10) (by omega) h
  exact_mod_cast this

theorem new_one (w : World) : (w.alloc (.cells #[.int .u8 45] 5 (1, 2))).cell? ⟨w.heap.size, 0, none⟩ = some (.int .u8 45) :=
  cell_of_row _ w.heap.size 0 #[.int .u8 45] 5 (1, 2) (heap_alloc_new w _)

theorem old_cell {w : World} {a : Addr} {v : Value} (h : w.cell? a = some v) (o : Obj) : (w.alloc o).cell? a = some v :=
  (World.cell?_of_block (Below.heap_alloc w o _ (block_lt_of_cell h))).trans h

set_option maxHeartbeats 400000 in
theorem plain_pos (g M : Nat) (D : List Int) (V : Int) (w : World) (hM : D.length = M) (h1 : 1 ≤ M) (h18 : M ≤ 18) (hD : Num.isDigits D) (hV : Num.vd 0 D = V)
    (hc : ∀ j, j < D.length → w.cell? ⟨g, j, none⟩ = some (.int .u8 (D[j]?.getD 0))) :
    Calls Try.prog 28 #[.slice (some ⟨g, 0, none⟩) M M] w fun e w' => e = .returned (.tuple #[.int .i64 V, .bool true]) ∧ Below w.heap.size w w' := by
  have HM : Hid (D.length = M) := hM
  have HD : Hid (Num.isDigits D) := hD
  have HV : Hid (Num.vd 0 D = V) := hV
  have HC : Hid (∀ j, j < D.length → w.cell? ⟨g, j, none⟩ = some (.int .u8 (D[j]?.getD 0))) := hc
  have kc := fun (w : World) (C : Array Value) (n c : Nat) => Lib.run_convert_bytes_const (P := Try.prog) w 22 5 C n c Try.underlying22 Try.underlying5
  have hd : ∀ j, j < D.length → 48 ≤ D[j]?.getD 0 ∧ D[j]?.getD 0 ≤ 57 := fun j hj => by
    rw [List.getElem?_eq_getElem hj]; exact hD _ (List.getElem_mem _)
  have HDB : Hid (∀ j, j < D.length → 48 ≤ D[j]?.getD 0 ∧ D[j]?.getD 0 ≤ 57) := hd
  clear hM hD hV hc hd
  go_enter Try.func28, Try.ntmps28
  go_wp2_with fail
  refine (cut_no g w.heap.size M (D[0]?.getD 0) _ h1 (by omega) (by have := HDB.out 0 (by rw [HM.out]; omega); omega) (by have := HDB.out 0 (by rw [HM.out]; omega); omega) (by have := HDB.out 0 (by rw [HM.out]; omega); omega) (old_cell (HC.out 0 (by rw [HM.out]; omega)) _) (new_one w)).mono ?_
  rintro e w1 ⟨rfl, hw1⟩
  have HW : Hid (Below w.heap.size w w1) := by show Below _ _ _; rw [hw1]; exact (Below.refl _ _).alloc (Nat.le_refl _) _
  have HC1 : Hid (∀ j, j < D.length → w1.cell? ⟨g, j, none⟩ = some (.int .u8 (D[j]?.getD 0))) := fun j hj => by rw [hw1]; exact old_cell (HC.out j hj) _
  clear hw1 kc
  have e0 : ((M : Int) == 0) = false := beq_eq_false_iff_ne.2 (by omega)
  go_wp2_with fail
  go_loop [6, 26] (fun v6 v26 => ∃ (k : Nat) (n : Int), k ≤ M ∧ v6 = .int .i64 n ∧ v26 = .int .i64 k ∧ Hid (n = Num.vd 0 (D.take k))) (fun _ v => M - (intOf v).toNat)
  case atStart => exact ⟨0, 0, by omega, rfl, rfl, (Num.vd_nil 0).symm⟩
  case round =>
    obtain ⟨k, n, hk, rfl, rfl, HN⟩ := hrel
    have hbd := Num.vd_bounds D HD.out k (by rw [HM.out]; exact hk)
    rw [← HN.out] at hbd
    by_cases hlt : k < M
    · have hkD : k < D.length := by rw [HM.out]; exact hlt
      have hcell := HC1.out k hkD
      have hdg := HDB.out k hkD
      have hv := Num.vd_take D k hkD
      obtain ⟨c, hcc⟩ : ∃ c, c = D[k]?.getD 0 := ⟨_, rfl⟩
      rw [← hcc] at hcell hdg hv
      obtain ⟨hc1, hc2⟩ := hdg
      have hn0 : 0 ≤ n := hbd.1
      have hn1 : n ≤ 99999999999999999 := by
        have hp : (10 : Int) ^ k ≤ 10 ^ 17 := pow10 k _ (by omega)
        have := hbd.2
        omega
      have HNX : Hid (n * 10 + (c - 48) = Num.vd 0 (D.take (k + 1))) := by show _ = _; rw [hv, ← HN.out]
      clear hkD hv hcc hbd
      go_wp2
      go_round
      case rel => exact ⟨k + 1, n * 10 + (c - 48), by omega, rfl, by go_num, HNX⟩
      case measure => simp [intOf]; omega
    · have hn : n = V := by rw [HN.out, List.take_of_length_le (by rw [HM.out]; omega)]; exact HV.out
      subst hn
      clear hbd
      go_wp2
      go_ret2
      exact ⟨rfl, HW.out⟩

set_option maxHeartbeats 400000 in
theorem plain_neg (g M : Nat) (D : List Int) (V : Int) (w : World) (hM : D.length = M) (h1 : 1 ≤ M) (h18 : M ≤ 18) (hD : Num.isDigits D) (hV : Num.vd 0 D = V)
    (h45 : w.cell? ⟨g, 0, none⟩ = some (.int .u8 45)) (hc : ∀ j, j < D.length → w.cell? ⟨g, 1 + j, none⟩ = some (.int .u8 (D[j]?.getD 0))) :
    Calls Try.prog 28 #[.slice (some ⟨g, 0, none⟩) (M + 1) (M + 1)] w fun e w' => e = .returned (.tuple #[.int .i64 (-V), .bool true]) ∧ Below w.heap.size w w' := by
  have HM : Hid (D.length = M) := hM
  have HD : Hid (Num.isDigits D) := hD
  have HV : Hid (Num.vd 0 D = V) := hV
  have HC : Hid (∀ j, j < D.length → w.cell? ⟨g, 1 + j, none⟩ = some (.int .u8 (D[j]?.getD 0))) := hc
  have H45 : Hid (w.cell? ⟨g, 0, none⟩ = some (.int .u8 45)) := h45
  have kc := fun (w : World) (C : Array Value) (n c : Nat) => Lib.run_convert_bytes_const (P := Try.prog) w 22 5 C n c Try.underlying22 Try.underlying5
  have hd : ∀ j, j < D.length → 48 ≤ D[j]?.getD 0 ∧ D[j]?.getD 0 ≤ 57 := fun j hj => by
    rw [List.getElem?_eq_getElem hj]; exact hD _ (List.getElem_mem _)
  have HDB : Hid (∀ j, j < D.length → 48 ≤ D[j]?.getD 0 ∧ D[j]?.getD 0 ≤ 57) := hd
  clear hM hD hV hc hd h45
  go_enter Try.func28, Try.ntmps28
  go_wp2_with fail
  refine (cut_yes g w.heap.size (M + 1) _ (by omega) (by omega) (old_cell H45.out _) (new_one w)).mono ?_
  rintro e w1 ⟨rfl, hw1⟩
  have HW : Hid (Below w.heap.size w w1) := by show Below _ _ _; rw [hw1]; exact (Below.refl _ _).alloc (Nat.le_refl _) _
  have HC1 : Hid (∀ j, j < D.length → w1.cell? ⟨g, 1 + j, none⟩ = some (.int .u8 (D[j]?.getD 0))) := fun j hj => by rw [hw1]; exact old_cell (HC.out j hj) _
  clear hw1 kc
  have e0 : ((M : Int) == 0) = false := beq_eq_false_iff_ne.2 (by omega)
  go_wp2_with fail
  go_loop [6, 26] (fun v6 v26 => ∃ (k : Nat) (n : Int), k ≤ M ∧ v6 = .int .i64 n ∧ v26 = .int .i64 k ∧ Hid (n = Num.vd 0 (D.take k))) (fun _ v => M - (intOf v).toNat)
  case atStart => exact ⟨0, 0, by omega, rfl, rfl, (Num.vd_nil 0).symm⟩
  case round =>
    obtain ⟨k, n, hk, rfl, rfl, HN⟩ := hrel
    have hbd := Num.vd_bounds D HD.out k (by rw [HM.out]; exact hk)
    rw [← HN.out] at hbd
    by_cases hlt : k < M
    · have hkD : k < D.length := by rw [HM.out]; exact hlt
      have hcell := HC1.out k hkD
      have hdg := HDB.out k hkD
      have hv := Num.vd_take D k hkD
      obtain ⟨c, hcc⟩ : ∃ c, c = D[k]?.getD 0 := ⟨_, rfl⟩
      rw [← hcc] at hcell hdg hv
      obtain ⟨hc1, hc2⟩ := hdg
      have hn0 : 0 ≤ n := hbd.1
      have hn1 : n ≤ 99999999999999999 := by
        have hp : (10 : Int) ^ k ≤ 10 ^ 17 := pow10 k _ (by omega)
        have := hbd.2
        omega
      have HNX : Hid (n * 10 + (c - 48) = Num.vd 0 (D.take (k + 1))) := by show _ = _; rw [hv, ← HN.out]
      clear hkD hv hcc hbd
      go_wp2
      go_round
      case rel => exact ⟨k + 1, n * 10 + (c - 48), by omega, rfl, by go_num, HNX⟩
      case measure => simp [intOf]; omega
    · have hn : n = V := by rw [HN.out, List.take_of_length_le (by rw [HM.out]; omega)]; exact HV.out
      subst hn
      have hn0 : 0 ≤ n := hbd.1
      have hn1 : n ≤ 999999999999999999 := by
        have hp : (10 : Int) ^ k ≤ 10 ^ 18 := pow10 k _ (by omega)
        have := hbd.2
        omega
      clear hbd
      go_wp2
      go_ret2
      exact ⟨rfl, HW.out⟩
end Go.Proofs.Qxb6600502a
