import Derived.Test.Qxb6600502aClone
import Derived.Test.Qxb6600502aNum
import Derived.Deep.DeepCutAuto
namespace Go.Proofs.Qxb6600502a
open Go.RowKit

/-- the bytes zs lie from the head of block g on -/
def BytesAt (w : World) (g : Nat) (zs : List Int) : Prop := ∀ j, j < zs.length → w.cell? ⟨g, j, none⟩ = some (.int .u8 (zs[j]?.getD 0))

theorem ret_int {k : IntKind} {a b : Int} (h : a = b) : Ending.returned (.int k a) = .returned (.int k b) := by rw [h]

set_option maxHeartbeats 400000 in
theorem digits_any (g len cap i R : Nat) (zs : List Int) (w : World) (hz : zs.length = len) (hm : len ≤ 1048577) (hi : i ≤ len) (hb : BytesAt w g zs) (hR : i + Num.dig (zs.drop i) = R) :
    Calls Try.prog 30 #[.slice (some ⟨g, 0, none⟩) len cap, .int .i64 i] w fun e w' => e = .returned (.int .i64 R) ∧ w' = w := by
  have HR : Hid (i + Num.dig (zs.drop i) = R) := hR
  clear hR
  have HZ : Hid (zs.length = len) := hz
  have HB : Hid (BytesAt w g zs) := hb
  clear hz hb
  go_enter Try.func30, Try.ntmps30
  go_wp2
  go_loop [1] (fun v => ∃ k : Nat, k ≤ len ∧ v = .int .i64 k ∧ Hid (k + Num.dig (zs.drop k) = R)) (fun v => len - (intOf v).toNat)
  case atStart => exact ⟨i, hi, rfl, HR⟩
  case round =>
    obtain ⟨k, hk, rfl, HK⟩ := hrel
    by_cases hlt : k < len
    · have hkz : k < zs.length := by rw [HZ.out]; exact hlt
      have hcell := HB.out k hkz
      obtain ⟨c, hc⟩ : ∃ c, c = zs[k]?.getD 0 := ⟨_, rfl⟩
      have HC : Hid (c = zs[k]?.getD 0) := hc
      rw [← hc] at hcell
      clear hc
      by_cases h1 : 48 ≤ c
      · by_cases h2 : c ≤ 57
        · clear hkz
          go_wp2
          go_round
          case rel => exact ⟨k + 1, by omega, by go_num, by have h := HK.out; have hc := HC.out; rw [Num.dig_in zs k (by rw [HZ.out]; exact hlt) (by omega) (by omega)] at h; show k + 1 + _ = _; omega⟩
          case measure => simp [intOf]; omega
        · clear hkz
          go_wp2
          go_ret
          have h := HK.out; have hc := HC.out
          rw [Num.dig_out zs k (by rw [HZ.out]; exact hlt) (by omega)] at h
          exact ⟨ret_int (by omega), rfl⟩
      · clear hkz
        go_wp2
        go_ret
        have h := HK.out; have hc := HC.out
        rw [Num.dig_out zs k (by rw [HZ.out]; exact hlt) (by omega)] at h
        exact ⟨ret_int (by omega), rfl⟩
    · go_wp2
      go_ret
      have h := HK.out
      rw [Num.dig_end zs k (by rw [HZ.out]; omega)] at h
      exact ⟨ret_int (by omega), rfl⟩

theorem digits_at (g len cap i R : Nat) (I : Int) (zs : List Int) (w : World) (hI : I = (i : Int)) (hz : zs.length = len) (hm : len ≤ 1048577) (hi : i ≤ len) (hb : BytesAt w g zs) (hR : i + Num.dig (zs.drop i) = R) :
    Calls Try.prog 30 #[.slice (some ⟨g, 0, none⟩) len cap, .int .i64 I] w fun e w' => e = .returned (.int .i64 R) ∧ w' = w := by
  subst hI
  exact digits_any g len cap i R zs w hz hm hi hb hR

end Go.Proofs.Qxb6600502a
