import Derived.Test.Qxb6600502aFrame
import Derived.BigQuiet
import Derived.Deep.QuietTactic
namespace Go.Proofs.Qxb6600502a
open Go.RowKit

/-- what 'frame' leaves: the room's first '5 - k' bytes stay, 'k' bytes of prefix, the message -/
theorem zzframe_any (g L : Nat) (zs : List Int) (w : World) (hL : zs.length = L) (h1 : 5 ≤ L) (h2 : L ≤ 1048576) (hg : RowB w g zs) :
    Calls Try.prog 22 #[.slice (some ⟨g, 0, none⟩) L L] w fun e w' => ∃ s pre, 2 ≤ s ∧ s ≤ 4 ∧ pre.length = 5 - s ∧ e = .returned (.slice (some ⟨g, s, none⟩) (L - s) (L - s)) ∧
      RowB w' g (framed zs pre) ∧ w.grownBy w' (some g) := by
  go_enter Try.func22, Try.ntmps22
  go_wp2_with fail
  by_cases c1 : L < 133
  · refine (frame_1 g L zs w hL h1 c1 hg).mono ?_
    rintro e w' ⟨rfl, hr, hw⟩
    go_wp2
    go_ret
    exact ⟨4, _, by omega, by omega, rfl, rfl, hr, hw⟩
  by_cases c2 : L < 16389
  · refine (frame_2 g L zs w hL h2 (by omega) c2 hg).mono ?_
    rintro e w' ⟨rfl, hr, hw⟩
    go_wp2
    go_ret
    exact ⟨3, _, by omega, by omega, rfl, rfl, hr, hw⟩
  · refine (frame_3 g L zs w hL (by omega) h2 hg).mono ?_
    rintro e w' ⟨rfl, hr, hw⟩
    go_wp2
    go_ret
    exact ⟨2, _, by omega, by omega, rfl, rfl, hr, hw⟩

set_option maxHeartbeats 400000 in
theorem law9_long (a : Option Addr) (len cap : Nat) (w : World) (h : 1048576 < len) (hm : len ≤ maxLen) :
    Calls Try.prog 9 #[.slice a len cap] w fun e w' => e = .returned (.bool true) ∧ w' = w := by
  unfold maxLen at hm
  go_enter Try.func9, Try.ntmps9
  go_wp2
  go_ret
  exact ⟨rfl, rfl⟩

set_option maxHeartbeats 400000 in
theorem law9_short (a : Option Addr) (len cap : Nat) (w : World) (h : len < 5) :
    Calls Try.prog 9 #[.slice a len cap] w fun e w' => e = .returned (.bool true) ∧ w' = w := by
  go_enter Try.func9, Try.ntmps9
  go_wp2
  go_ret
  exact ⟨rfl, rfl⟩

theorem zzbytes24 (a : Option Addr) (len cap : Nat) (w : World) (h : len ≤ 1048576) :
    Calls Try.prog 24 #[.slice a len cap] w fun e w' => e = .returned (.bool true) ∧ w' = w := by
  go_enter Try.func24, Try.ntmps24
  go_wp2
  go_ret
  exact ⟨rfl, rfl⟩

theorem addr0 (g i : Nat) : (⟨g, 0, none⟩ : Addr).add i = ⟨g, i, none⟩ := by unfold Addr.add; split <;> simp_all

theorem cell0 {w : World} {g : Nat} {zs : List Int} (h : RowB w g zs) : ∀ i, i < zs.length → w.cell? ((⟨g, 0, none⟩ : Addr).add i) = some (.int .u8 (zs.getD i 0)) := by
  intro i hi
  rw [addr0, h.cell hi]; simp

theorem grown_row {w w' : World} {g k : Nat} {zs : List Int} (h : RowB w k zs) (hg : w.grownBy w' (some g)) (hne : k ≠ g) : RowB w' k zs :=
  h.of_block (hg.block k h.lt (by simpa using hne))

set_option maxHeartbeats 400000 in
theorem law9_main (x : Addr) (L cap : Nat) (zs : List Int) (w : World) (hL : zs.length = L) (h1 : 5 ≤ L) (h2 : L ≤ 1048576)
    (hc : ∀ i, i < zs.length → w.cell? (x.add i) = some (.int .u8 (zs.getD i 0))) :
    Calls Try.prog 9 #[.slice (some x) L cap] w fun e w' => e = .returned (.bool true) ∧ Below w.heap.size w w' := by
  have HL : Hid (zs.length = L) := hL
  have HC : Hid (∀ i, i < zs.length → w.cell? (x.add i) = some (.int .u8 (zs.getD i 0))) := hc
  clear hL hc
  go_enter Try.func9, Try.ntmps9
  go_wp2_with fail
  refine (zzbytes24 _ _ _ _ h2).mono ?_
  rintro e w' ⟨rfl, rfl⟩
  go_wp2_with fail
  refine (clone_any x L cap zs w' HL.out h2 HC.out).mono ?_
  rintro e w1 ⟨rfl, hr1, hs1, hb1⟩
  have HR1 : Hid (RowB w1 w'.heap.size zs) := hr1
  have HS1 : Hid (w1.heap.size = w'.heap.size + 1) := hs1
  have HB1 : Hid (Below w'.heap.size w' w1) := hb1
  clear hr1 hs1 hb1
  go_wp2_with fail
  refine (clone_any ⟨w'.heap.size, 0, none⟩ L L zs w1 HL.out h2 (cell0 HR1.out)).mono ?_
  rintro e w2 ⟨rfl, hr2, hs2, hb2⟩
  have HR2 : Hid (RowB w2 w1.heap.size zs) := hr2
  have HS2 : Hid (w2.heap.size = w1.heap.size + 1) := hs2
  have HB2 : Hid (Below w1.heap.size w1 w2) := hb2
  clear hr2 hs2 hb2
  go_wp2_with fail
  refine (zzframe_any w1.heap.size L zs w2 HL.out h1 h2 HR2.out).mono ?_
  rintro e w3 ⟨s, pre, hs1, hs2, hpre, rfl, hr3, hg3⟩
  -- the rows as they stand now
  have hrA : RowB w3 w'.heap.size zs := by
    have hlt := HR1.out.lt
    refine grown_row (HR1.out.of_block (HB2.out.block _ hlt)) hg3 (by omega)
  have hlen : (framed zs pre).length = L := by have := HL.out; simp [framed]; omega
  obtain ⟨ys, hys⟩ : ∃ ys, ys = framed zs pre := ⟨_, rfl⟩
  have hyl : ys.length = L := by rw [hys]; exact hlen
  have hsame : ∀ i, i < s → ys[i]?.getD 0 = zs[i]?.getD 0 := by
    intro i hi
    have := HL.out
    rw [hys, framed, List.getElem?_append_left (by simp; omega), List.getElem?_take_of_lt (by omega)]
  rw [← hys] at hr3
  have HY : Hid (ys.length = L) := hyl
  have HSame : Hid (∀ i, i < s → ys[i]?.getD 0 = zs[i]?.getD 0) := hsame
  have HRA : Hid (RowB w3 w'.heap.size zs) := hrA
  have HRB : Hid (RowB w3 w1.heap.size ys) := hr3
  have HG3 : Hid (w2.grownBy w3 (some w1.heap.size)) := hg3
  clear hrA hr3 hg3 hsame hyl hlen hys
  go_wp2_with fail
  have e6 : (L : Int) - ((L - s : Nat) : Int) = (s : Int) := by omega
  rw [e6]
  clear e6
  go_loopw [7] (fun i wr => ∃ k nq : Nat, k ≤ s ∧ i = .int .i64 k ∧ wr = w3.drewN nq) (fun i _ => s - (intOf i).toNat)
  case atStart => exact ⟨0, 0, Nat.zero_le _, rfl, rfl⟩
  case round =>
    obtain ⟨k, nq, hk, rfl, rfl⟩ := hrel
    by_cases hlt : k < s
    · have hcA := HRA.out.cell (j := k) (by have := HL.out; omega)
      have hcB := HRB.out.cell (j := k) (by have := HY.out; omega)
      rw [HSame.out k hlt] at hcB
      have hi : (k : Int) < (L : Int) := by omega
      go_wp2
      go_quiet (fail)
      go_wp2
      go_roundw
      case rel => exact ⟨k + 1, _, by omega, by go_num, rfl⟩
      case measure => simp [intOf]; omega
    · go_wp2
      go_loopw [8] (fun i wr => ∃ k nq : Nat, k ≤ L - s ∧ i = .int .i64 k ∧ wr = w3.drewN nq) (fun i _ => (L - s) - (intOf i).toNat)
      case atStart => exact ⟨0, nq, Nat.zero_le _, rfl, rfl⟩
      case round =>
        obtain ⟨j, nr, hj, rfl, rfl⟩ := hrel
        by_cases hlj : j < L - s
        · have hcB := HRB.out.cell (j := s + j) (by have := HY.out; omega)
          have hi : (j : Int) < ((L - s : Nat) : Int) := by omega
          have hi2 : (s : Int) + (j : Int) < (L : Int) := by omega
          go_wp2
          go_quiet (fail)
          go_wp2
          go_roundw
          case rel => exact ⟨j + 1, _, by omega, by go_num, rfl⟩
          case measure => simp [intOf]; omega
        · have hcB := HRB.out.cell (j := s) (by have := HY.out; omega)
          have hfB := HRB.out.free s
          have hi : (0 : Int) < ((L - s : Nat) : Int) := by omega
          have hi2 : (s : Int) < (L : Int) := by omega
          go_wp2
          go_quiet (fail)
          go_wp2
          go_ret
          refine ⟨rfl, ?_⟩
          have hs1 := HS1.out
          have hs2 := HS2.out
          have b3 : Below w'.heap.size w' w3 := (HB1.out.trans (HB2.out.mono (by omega))).grown HG3.out (by omega) (by rintro k ⟨⟩; omega)
          exact below_drewN ((below_drewN b3 nr).setCell (by show _ ≤ w1.heap.size; omega) _) _

/-- what the shell's walk asks, out of the three cases -/
theorem law9_any (a : Option Addr) (len cap : Nat) (zs : List Int) (w : World)
    (h : (a = none ∧ len = 0 ∧ cap = 0 ∧ zs = []) ∨ ∃ x, a = some x ∧ len ≤ cap ∧ cap ≤ maxLen ∧ zs.length = cap ∧ (∀ i, i < zs.length → w.cell? (x.add i) = some (.int .u8 (zs.getD i 0))) ∧ ∀ n ∈ zs, (Lit.int .u8 n).wf = true) :
    Calls Try.prog 9 #[.slice a len cap] w fun e w' => e = .returned (.bool true) ∧ Below w.heap.size w w' := by
  rcases h with ⟨rfl, rfl, rfl, rfl⟩ | ⟨x, rfl, hlc, hcm, hz, hc, _⟩
  · refine (law9_short none 0 0 w (by omega)).mono ?_
    rintro e w' ⟨he, rfl⟩
    exact ⟨he, Below.refl _ _⟩
  · by_cases c1 : len < 5
    · refine (law9_short (some x) len cap w c1).mono ?_
      rintro e w' ⟨he, rfl⟩
      exact ⟨he, Below.refl _ _⟩
    by_cases c2 : 1048576 < len
    · refine (law9_long (some x) len cap w c2 (by omega)).mono ?_
      rintro e w' ⟨he, rfl⟩
      exact ⟨he, Below.refl _ _⟩
    · refine law9_main x len cap (zs.take len) w (by simp; omega) (by omega) (by omega) (take_cells (by omega) hc)
end Go.Proofs.Qxb6600502a
