import Derived.Test.Qxb6600502aModel
import Derived.Test.Qxb6600502aNum3
namespace Go.Proofs.Qxb6600502a
open Go.RowKit

theorem zzscan_any (g len cap : Nat) (zs : List Int) (R : Int) (w : World) (hz : zs.length = len) (hm : len ≤ 1048577) (hi : 1 ≤ len) (hb : BytesAt w g zs) (hR : Num.ans (Num.scan zs) = R) :
    Calls Try.prog 12 #[.slice (some ⟨g, 0, none⟩) len cap] w fun e w' => e = .returned (.int .i64 R) ∧ w' = w := by
  have HB : Hid (BytesAt w g zs) := hb
  have HZ : Hid (zs.length = len) := hz
  have HR : Hid (Num.ans (Num.scan zs) = R) := hR
  clear hb hz hR
  go_enter Try.func12, Try.ntmps12
  go_wp2_with fail
  refine (scan_any g len cap zs R w HZ.out hm hi HB.out HR.out).mono ?_
  rintro e w' ⟨rfl, rfl⟩
  go_wp2
  go_ret
  exact ⟨rfl, rfl⟩

theorem RowB.bytes {w : World} {g : Nat} {zs : List Int} (h : RowB w g zs) : BytesAt w g zs := fun _ hj => h.cell hj

theorem zzbytes10 (a : Option Addr) (len cap : Nat) (w : World) (h : len ≤ 1048576) :
    Calls Try.prog 10 #[.slice a len cap] w fun e w' => e = .returned (.bool true) ∧ w' = w := by
  go_enter Try.func10, Try.ntmps10
  go_wp2
  go_ret
  exact ⟨rfl, rfl⟩

set_option maxHeartbeats 400000 in
theorem law3_long (a : Option Addr) (len cap : Nat) (w : World) (h : 1048576 < len) (hm : len ≤ maxLen) :
    Calls Try.prog 3 #[.slice a len cap] w fun e w' => e = .returned (.bool true) ∧ w' = w := by
  unfold maxLen at hm
  go_enter Try.func3, Try.ntmps3
  go_wp2
  go_ret
  exact ⟨rfl, rfl⟩

set_option maxHeartbeats 400000 in
theorem law3_short (a : Option Addr) (cap : Nat) (w : World) :
    Calls Try.prog 3 #[.slice a 0 cap] w fun e w' => e = .returned (.bool true) ∧ w' = w := by
  go_enter Try.func3, Try.ntmps3
  go_wp2
  go_ret
  exact ⟨rfl, rfl⟩

set_option maxHeartbeats 400000 in
theorem law3_main (x : Addr) (L cap : Nat) (zs : List Int) (w : World) (hL : zs.length = L) (h1 : 1 ≤ L) (h2 : L ≤ 1048576)
    (hc : ∀ i, i < zs.length → w.cell? (x.add i) = some (.int .u8 (zs.getD i 0))) :
    Calls Try.prog 3 #[.slice (some x) L cap] w fun e w' => e = .returned (.bool true) ∧ Below w.heap.size w w' := by
  have HL : Hid (zs.length = L) := hL
  have HC : Hid (∀ i, i < zs.length → w.cell? (x.add i) = some (.int .u8 (zs.getD i 0))) := hc
  clear hL hc
  obtain ⟨R, hR⟩ : ∃ R, Num.ans (Num.scan zs) = R := ⟨_, rfl⟩
  have HR : Hid (Num.ans (Num.scan zs) = R) := hR
  have HM : Hid (Num.ans (Num.model zs) = R) := by show _ = _; rw [← Num.scan_eq_model zs (by rw [HL.out]; exact h1)]; exact hR
  clear hR
  go_enter Try.func3, Try.ntmps3
  go_wp2_with fail
  refine (zzbytes10 _ _ _ _ h2).mono ?_
  rintro e w' ⟨rfl, rfl⟩
  go_wp2_with fail
  refine (clone_any x L cap zs w' HL.out h2 HC.out).mono ?_
  rintro e w1 ⟨rfl, hr1, hs1, hb1⟩
  have HR1 : Hid (RowB w1 w'.heap.size zs) := hr1
  have HB1 : Hid (Below w'.heap.size w' w1) := hb1
  clear hr1 hs1 hb1
  go_wp2_with fail
  refine (zzscan_any w'.heap.size L L zs R w1 HL.out (by omega) h1 HR1.out.bytes HR.out).mono ?_
  rintro e w2 ⟨rfl, rfl⟩
  go_wp2_with fail
  refine (model_any w'.heap.size L L zs R w2 HL.out (by omega) HR1.out.bytes HM.out).mono ?_
  rintro e w3 ⟨rfl, rfl⟩
  go_wp2
  go_ret
  exact ⟨rfl, HB1.out⟩

theorem law3_any (a : Option Addr) (len cap : Nat) (zs : List Int) (w : World)
    (h : (a = none ∧ len = 0 ∧ cap = 0 ∧ zs = []) ∨ ∃ x, a = some x ∧ len ≤ cap ∧ cap ≤ maxLen ∧ zs.length = cap ∧ (∀ i, i < zs.length → w.cell? (x.add i) = some (.int .u8 (zs.getD i 0))) ∧ ∀ n ∈ zs, (Lit.int .u8 n).wf = true) :
    Calls Try.prog 3 #[.slice a len cap] w fun e w' => e = .returned (.bool true) ∧ Below w.heap.size w w' := by
  rcases h with ⟨rfl, rfl, rfl, rfl⟩ | ⟨x, rfl, hlc, hcm, hz, hc, _⟩
  · refine (law3_short none 0 w).mono ?_
    rintro e w' ⟨he, rfl⟩
    exact ⟨he, Below.refl _ _⟩
  · by_cases c1 : len = 0
    · subst c1
      refine (law3_short (some x) cap w).mono ?_
      rintro e w' ⟨he, rfl⟩
      exact ⟨he, Below.refl _ _⟩
    by_cases c2 : 1048576 < len
    · refine (law3_long (some x) len cap w c2 (by omega)).mono ?_
      rintro e w' ⟨he, rfl⟩
      exact ⟨he, Below.refl _ _⟩
    · exact law3_main x len cap (zs.take len) w (by simp; omega) (by omega) (by omega) (take_cells (by omega) hc)
end Go.Proofs.Qxb6600502a
