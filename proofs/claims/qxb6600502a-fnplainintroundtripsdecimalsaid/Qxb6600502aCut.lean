import Derived.Test.Qxb6600502aClone
import Derived.Laws.BytesArg
import Derived.Lib.SlBytesConst
namespace Go.Proofs.Qxb6600502a
open Go.RowKit

theorem strOf_one (x : Int) : strOfNums [x] = ⟨#[UInt8.ofNat x.toNat]⟩ := rfl

theorem conv_one (w : World) (g c : Nat) (x : Int) (h : w.cell? ⟨g, 0, none⟩ = some (.int .u8 x)) :
    (convert 22 9 (.slice (some ⟨g, 0, none⟩) 1 c)).run Try.prog w = .ok (.string (strOfNums [x])) w := by
  refine run_convert_bytes_arg w 22 5 Try.underlying22 Try.underlying5 g 0 1 c [x] rfl ?_ 9 Try.underlying9
  intro i hi
  obtain rfl : i = 0 := by omega
  exact h

theorem eq_one (x : Int) (h0 : 0 ≤ x) (h1 : x ≤ 255) : ((strOfNums [x]).toList == (strOfNums [45]).toList) = decide (x = 45) := by
  rw [strOf_one, strOf_one, ByteArray.toList_eq, ByteArray.toList_eq]
  by_cases h : x = 45
  · subst h; simp
  · have hne : UInt8.ofNat x.toNat ≠ UInt8.ofNat 45 := by
      intro e
      have := congrArg UInt8.toNat e
      rw [UInt8.toNat_ofNat', UInt8.toNat_ofNat'] at this
      omega
    simp [h]
    simpa using hne

set_option maxHeartbeats 400000 in
theorem equal_one (g p c1 c2 : Nat) (x : Int) (b : Bool) (w : World) (h0 : 0 ≤ x) (h1 : x ≤ 255) (hg : w.cell? ⟨g, 0, none⟩ = some (.int .u8 x)) (hp : w.cell? ⟨p, 0, none⟩ = some (.int .u8 45)) (hb : decide (x = 45) = b) :
    Calls Try.prog 33 #[.slice (some ⟨g, 0, none⟩) 1 c1, .slice (some ⟨p, 0, none⟩) 1 c2] w fun e w' => e = .returned (.bool b) ∧ w' = w := by
  have k1 := conv_one w g c1 x hg
  have k2 := conv_one w p c2 45 hp
  have k3 := eq_one x h0 h1
  rw [hb] at k3
  generalize strOfNums [x] = X at k1 k3
  generalize strOfNums [45] = M at k2 k3
  clear hg hp hb h0 h1
  go_enter Try.func33, Try.ntmps33
  go_wp2_with fail
  go_ret
  exact ⟨rfl, rfl⟩

set_option maxHeartbeats 400000 in
theorem hasPrefix_one (g p L : Nat) (x : Int) (b : Bool) (w : World) (hL : 1 ≤ L) (hL2 : L ≤ 100) (h0 : 0 ≤ x) (h1 : x ≤ 255) (hg : w.cell? ⟨g, 0, none⟩ = some (.int .u8 x)) (hp : w.cell? ⟨p, 0, none⟩ = some (.int .u8 45)) (hb : decide (x = 45) = b) :
    Calls Try.prog 32 #[.slice (some ⟨g, 0, none⟩) L L, .slice (some ⟨p, 0, none⟩) 1 1] w fun e w' => e = .returned (.bool b) ∧ w' = w := by
  have HB : Hid (decide (x = 45) = b) := hb
  have HG : Hid (w.cell? ⟨g, 0, none⟩ = some (.int .u8 x)) := hg
  have HP : Hid (w.cell? ⟨p, 0, none⟩ = some (.int .u8 45)) := hp
  clear hb hg hp
  go_enter Try.func32, Try.ntmps32
  go_wp2_with fail
  refine (equal_one g p L 1 x b w h0 h1 HG.out HP.out HB.out).mono ?_
  rintro e w' ⟨rfl, rfl⟩
  go_wp2
  go_ret
  exact ⟨rfl, rfl⟩

set_option maxHeartbeats 400000 in
theorem cut_yes (g p L : Nat) (w : World) (hL : 2 ≤ L) (hL2 : L ≤ 100) (hg : w.cell? ⟨g, 0, none⟩ = some (.int .u8 45)) (hp : w.cell? ⟨p, 0, none⟩ = some (.int .u8 45)) :
    Calls Try.prog 31 #[.slice (some ⟨g, 0, none⟩) L L, .slice (some ⟨p, 0, none⟩) 1 1] w fun e w' => e = .returned (.tuple #[.slice (some ⟨g, 1, none⟩) (L - 1) (L - 1), .bool true]) ∧ w' = w := by
  have HG : Hid (w.cell? ⟨g, 0, none⟩ = some (.int .u8 45)) := hg
  have HP : Hid (w.cell? ⟨p, 0, none⟩ = some (.int .u8 45)) := hp
  clear hg hp
  have e1 : ¬ L = 1 := by omega
  go_enter Try.func31, Try.ntmps31
  go_wp2_with fail
  refine (hasPrefix_one g p L 45 true w (by omega) hL2 (by omega) (by omega) HG.out HP.out rfl).mono ?_
  rintro e w' ⟨rfl, rfl⟩
  go_wp2
  go_ret2
  exact ⟨rfl, rfl⟩

set_option maxHeartbeats 400000 in
theorem cut_no (g p L : Nat) (x : Int) (w : World) (hL : 1 ≤ L) (hL2 : L ≤ 100) (h0 : 0 ≤ x) (h1 : x ≤ 255) (hx : x ≠ 45) (hg : w.cell? ⟨g, 0, none⟩ = some (.int .u8 x)) (hp : w.cell? ⟨p, 0, none⟩ = some (.int .u8 45)) :
    Calls Try.prog 31 #[.slice (some ⟨g, 0, none⟩) L L, .slice (some ⟨p, 0, none⟩) 1 1] w fun e w' => e = .returned (.tuple #[.slice (some ⟨g, 0, none⟩) L L, .bool false]) ∧ w' = w := by
  have HG : Hid (w.cell? ⟨g, 0, none⟩ = some (.int .u8 x)) := hg
  have HP : Hid (w.cell? ⟨p, 0, none⟩ = some (.int .u8 45)) := hp
  have HX : Hid (x ≠ 45) := hx
  clear hg hp hx
  go_enter Try.func31, Try.ntmps31
  go_wp2_with fail
  refine (hasPrefix_one g p L x false w hL hL2 h0 h1 HG.out HP.out (decide_eq_false HX.out)).mono ?_
  rintro e w' ⟨rfl, rfl⟩
  go_wp2
  go_ret2
  exact ⟨rfl, rfl⟩
end Go.Proofs.Qxb6600502a
