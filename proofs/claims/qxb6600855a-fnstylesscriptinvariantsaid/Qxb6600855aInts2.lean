import Derived.Test.Qxb6600855aInts
namespace Go.Proofs.Qxb6600855a
open Go.RowKit

set_option maxHeartbeats 400000 in
theorem index_no (a : Option Addr) (n cap : Nat) (ys : List Int) (z : Int) (w : World) (hn : ys.length = n) (hm : n ≤ 1048576) (ha : IntsAt w a ys) (hz : ∀ j, j < ys.length → ys[j]?.getD 0 ≠ z) :
    Calls Try.prog 14 #[.slice a n cap, .int .i64 z] w fun e w' => e = .returned (.int .i64 (-1)) ∧ w' = w := by
  have HN : Hid (ys.length = n) := hn
  have HZ : Hid (∀ j, j < ys.length → ys[j]?.getD 0 ≠ z) := hz
  rcases ha with ⟨rfl, rfl⟩ | ⟨g, rfl, hc⟩
  · obtain rfl : n = 0 := by simpa using hn.symm
    clear hn hz HN HZ
    go_enter Try.func14, Try.ntmps14
    go_wp2_with fail
    go_rounds 1
    go_ret
    exact ⟨rfl, rfl⟩
  · have HC : Hid (∀ j, j < ys.length → w.cell? ⟨g, j, none⟩ = some (.int .i64 (ys[j]?.getD 0))) := hc
    clear hn hz hc
    go_enter Try.func14, Try.ntmps14
    go_wp2_with fail
    go_loop [8] (fun v => ∃ k : Nat, k ≤ n ∧ v = .int .i64 k) (fun v => n - (intOf v).toNat)
    case atStart => exact ⟨0, Nat.zero_le _, rfl⟩
    case round =>
      obtain ⟨k, hk, rfl⟩ := hrel
      by_cases hlt : k < n
      · have hky : k < ys.length := by rw [HN.out]; exact hlt
        have hcell := HC.out k hky
        have hne := HZ.out k hky
        obtain ⟨c, hcc⟩ : ∃ c, c = ys[k]?.getD 0 := ⟨_, rfl⟩
        rw [← hcc] at hcell hne
        have hd : (z == c) = false := by simp; exact fun e => hne e.symm
        clear hky hcc hne
        go_wp2_with fail
        go_round
        case rel => exact ⟨k + 1, by omega, by go_num⟩
        case measure => simp [intOf]; omega
      · go_wp2
        go_ret
        exact ⟨rfl, rfl⟩

set_option maxHeartbeats 400000 in
theorem index_yes (g n cap : Nat) (ys : List Int) (z : Int) (w : World) (hn : ys.length = n) (hm : n ≤ 1048576) (hc : ∀ j, j < ys.length → w.cell? ⟨g, j, none⟩ = some (.int .i64 (ys[j]?.getD 0))) (hz : z ∈ ys) :
    Calls Try.prog 14 #[.slice (some ⟨g, 0, none⟩) n cap, .int .i64 z] w fun e w' => ∃ i : Nat, i < n ∧ ys[i]?.getD 0 = z ∧ e = .returned (.int .i64 i) ∧ w' = w := by
  have HN : Hid (ys.length = n) := hn
  have HZ : Hid (z ∈ ys) := hz
  have HC : Hid (∀ j, j < ys.length → w.cell? ⟨g, j, none⟩ = some (.int .i64 (ys[j]?.getD 0))) := hc
  clear hn hz hc
  go_enter Try.func14, Try.ntmps14
  go_wp2_with fail
  go_loop [8] (fun v => ∃ k : Nat, k ≤ n ∧ v = .int .i64 k ∧ Hid (∀ j, j < k → ys[j]?.getD 0 ≠ z)) (fun v => n - (intOf v).toNat)
  case atStart => exact ⟨0, Nat.zero_le _, rfl, fun j hj => absurd hj (Nat.not_lt_zero _)⟩
  case round =>
    obtain ⟨k, hk, rfl, HK⟩ := hrel
    by_cases hlt : k < n
    · have hky : k < ys.length := by rw [HN.out]; exact hlt
      have hcell := HC.out k hky
      obtain ⟨c, hcc⟩ : ∃ c, c = ys[k]?.getD 0 := ⟨_, rfl⟩
      have HCC : Hid (c = ys[k]?.getD 0) := hcc
      rw [← hcc] at hcell
      by_cases he : c = z
      · have hd : (z == c) = true := by simp [he]
        have HE : Hid (c = z) := he
        clear hky hcc he
        go_wp2_with fail
        go_ret
        exact ⟨k, hlt, by rw [← HCC.out]; exact HE.out, rfl, rfl⟩
      · have hd : (z == c) = false := by simp; exact fun e => he e.symm
        have HNX : Hid (∀ j, j < k + 1 → ys[j]?.getD 0 ≠ z) := fun j hj => by
          by_cases e : j = k
          · subst e; rw [← hcc]; exact he
          · exact HK.out j (by omega)
        clear hky hcc he
        go_wp2_with fail
        go_round
        case rel => exact ⟨k + 1, by omega, by go_num, HNX⟩
        case measure => simp [intOf]; omega
    · exfalso
      obtain ⟨j, hj, e⟩ := List.getElem_of_mem HZ.out
      have hjn : j < n := by rw [← HN.out]; exact hj
      exact HK.out j (by omega) (by rw [List.getElem?_eq_getElem hj]; exact e)

set_option maxHeartbeats 400000 in
theorem equal_any (a b : Option Addr) (n c1 c2 : Nat) (ys : List Int) (w : World) (hn : ys.length = n) (hm : n ≤ 1048576) (ha : IntsAt w a ys) (hb : IntsAt w b ys) :
    Calls Try.prog 11 #[.slice a n c1, .slice b n c2] w fun e w' => e = .returned (.bool true) ∧ ∃ nq, w' = w.drewN nq := by
  have HN : Hid (ys.length = n) := hn
  by_cases h0 : n = 0
  · subst h0
    clear hn HN ha hb
    go_enter Try.func11, Try.ntmps11
    go_wp2_with fail
    go_rounds 1
    go_ret
    exact ⟨rfl, 0, rfl⟩
  · have hne : ys ≠ [] := by intro e; rw [e] at hn; simp at hn; omega
    rcases ha with ⟨_, h⟩ | ⟨g, rfl, hc⟩
    · exact absurd h hne
    rcases hb with ⟨_, h⟩ | ⟨g2, rfl, hc2⟩
    · exact absurd h hne
    have HC : Hid (∀ j, j < ys.length → w.cell? ⟨g, j, none⟩ = some (.int .i64 (ys[j]?.getD 0))) := hc
    have HC2 : Hid (∀ j, j < ys.length → w.cell? ⟨g2, j, none⟩ = some (.int .i64 (ys[j]?.getD 0))) := hc2
    clear hn hc hc2 hne h0
    go_enter Try.func11, Try.ntmps11
    go_wp2_with fail
    go_loopw [5] (fun v wr => ∃ k nq : Nat, k ≤ n ∧ v = .int .i64 k ∧ wr = w.drewN nq) (fun v _ => n - (intOf v).toNat)
    case atStart => exact ⟨0, 0, Nat.zero_le _, rfl, rfl⟩
    case round =>
      obtain ⟨k, nq, hk, rfl, rfl⟩ := hrel
      by_cases hlt : k < n
      · have hky : k < ys.length := by rw [HN.out]; exact hlt
        have hcA := HC.out k hky
        have hcB := HC2.out k hky
        have hi : (k : Int) < (n : Int) := by omega
        clear hky
        go_wp2
        go_quiet (fail)
        go_wp2
        go_roundw
        case rel => exact ⟨k + 1, _, by omega, by go_num, rfl⟩
        case measure => simp [intOf]; omega
      · go_wp2
        go_ret
        exact ⟨rfl, _, rfl⟩
end Go.Proofs.Qxb6600855a
