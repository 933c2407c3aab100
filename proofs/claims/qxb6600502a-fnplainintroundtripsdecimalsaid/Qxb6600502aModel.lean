import Derived.Test.Qxb6600502aScanNum
import Derived.Test.Qxb6600502aAuto
namespace Go.Proofs.Qxb6600502a
open Go.RowKit

theorem step_any (s : Nat) (hs : s ≤ 8) (c R : Int) (w : World) (hR : R = Num.stp s c) :
    Calls Try.prog 26 #[.int .i64 s, .int .u8 c] w fun e w' => e = .returned (.int .i64 R) ∧ w' = w := by
  match s, hs with
  | 0, _ => exact step_0 c R w hR
  | 1, _ => exact step_1 c R w hR
  | 2, _ => exact step_2 c R w hR
  | 3, _ => exact step_3 c R w hR
  | 4, _ => exact step_4 c R w hR
  | 5, _ => exact step_5 c R w hR
  | 6, _ => exact step_6 c R w hR
  | 7, _ => exact step_7 c R w hR
  | 8, _ => exact step_8 c R w hR

theorem acc_any (s : Nat) (hs : s ≤ 8) (b : Bool) (hb : Num.acc s = b) (w : World) :
    Calls Try.prog 27 #[.int .i64 s] w fun e w' => e = .returned (.bool b) ∧ w' = w := by
  match s, hs with
  | 0, _ | 1, _ | 2, _ | 3, _ | 4, _ | 5, _ | 6, _ | 7, _ | 8, _ =>
    obtain rfl := hb
    go_enter Try.func27, Try.ntmps27
    go_wp2
    go_ret
    exact ⟨rfl, rfl⟩

set_option maxHeartbeats 400000 in
theorem model_any (g len cap : Nat) (zs : List Int) (R : Int) (w : World) (hz : zs.length = len) (hm : len ≤ 1048577) (hb : BytesAt w g zs) (hR : Num.ans (Num.model zs) = R) :
    Calls Try.prog 13 #[.slice (some ⟨g, 0, none⟩) len cap] w fun e w' => e = .returned (.int .i64 R) ∧ w' = w := by
  have HZ : Hid (zs.length = len) := hz
  have HB : Hid (BytesAt w g zs) := hb
  have HR : Hid (Num.ans (Num.model zs) = R) := hR
  clear hz hb hR
  obtain ⟨F, hF⟩ : ∃ F, (Num.run 0 zs).1 = F := ⟨_, rfl⟩
  obtain ⟨N, hN⟩ : ∃ N, (Num.run 0 zs).2 = N := ⟨_, rfl⟩
  have HF : Hid ((Num.run 0 zs).1 = F) := hF
  have HN : Hid ((Num.run 0 zs).2 = N) := hN
  clear hF hN
  have HA : Hid (R = if Num.acc F = true then (N : Int) else -1) := by
    show _ = _
    rw [← HR.out, Num.model, HF.out, HN.out]
    split <;> rfl
  clear HR
  go_enter Try.func13, Try.ntmps13
  go_wp2_with fail
  go_loop [3, 4] (fun v3 v4 => ∃ st k : Nat, st ≤ 8 ∧ k ≤ len ∧ v3 = .int .i64 st ∧ v4 = .int .i64 k ∧ Hid ((Num.run st (zs.drop k)).1 = F) ∧ Hid (k + (Num.run st (zs.drop k)).2 = N)) (fun _ v => len - (intOf v).toNat)
  case atStart => exact ⟨0, 0, by omega, by omega, rfl, rfl, HF, by show _ = _; have := HN.out; rw [List.drop_zero]; omega⟩
  case round =>
    obtain ⟨st, k, hst, hk, rfl, rfl, K1, K2⟩ := hrel
    -- both ways out of the loop: the state stands and no byte more is eaten
    have fin : st = F → k = N → Hid (Num.acc F = Num.acc st ∧ (N : Int) = k) := fun h1 h2 => ⟨by rw [h1], by rw [h2]⟩
    by_cases hlt : k < len
    · have hkz : k < zs.length := by rw [HZ.out]; exact hlt
      have hcell := HB.out k hkz
      obtain ⟨c, hc⟩ : ∃ c, c = zs[k]?.getD 0 := ⟨_, rfl⟩
      have HC : Hid (c = zs[k]?.getD 0) := hc
      rw [← hc] at hcell
      clear hc
      obtain ⟨t, ht⟩ : ∃ t, t = Num.stp st c := ⟨_, rfl⟩
      have HT : Hid (t = Num.stp st c) := ht
      have hrange := Num.stp_range st c
      rw [← ht] at hrange
      clear ht
      by_cases hneg : t < 0
      · have e := Num.run_stop zs k st hkz (by rw [← HC.out, ← HT.out]; exact hneg)
        have k1 := K1.out
        have k2 := K2.out
        rw [e] at k1 k2
        have HFN := fin k1 (by simpa using k2)
        clear e k1 k2 hkz fin hrange K1 K2
        cases hacc : Num.acc st
        · have HAC : Hid (Num.acc st = false) := hacc
          clear hacc
          go_wp2_with (first | (go_at_call 26; refine (step_any st hst c t _ HT.out).mono ?_; rintro e w' ⟨rfl, rfl⟩) | (go_at_call 27; refine (acc_any st hst false HAC.out _).mono ?_; rintro e w' ⟨rfl, rfl⟩))
          go_ret
          exact ⟨ret_int (by rw [HA.out, HFN.out.1, HAC.out]; rfl), rfl⟩
        · have HAC : Hid (Num.acc st = true) := hacc
          clear hacc
          go_wp2_with (first | (go_at_call 26; refine (step_any st hst c t _ HT.out).mono ?_; rintro e w' ⟨rfl, rfl⟩) | (go_at_call 27; refine (acc_any st hst true HAC.out _).mono ?_; rintro e w' ⟨rfl, rfl⟩))
          go_ret
          exact ⟨ret_int (by rw [HA.out, HFN.out.1, HAC.out, HFN.out.2]; rfl), rfl⟩
      · have e := Num.run_go zs k st hkz (by rw [← HC.out, ← HT.out]; exact hneg)
        rw [← HC.out, ← HT.out] at e
        have k1 := K1.out
        have k2 := K2.out
        rw [e] at k1 k2
        obtain ⟨st2, hst2⟩ : ∃ n : Nat, t = (n : Int) := ⟨t.toNat, by omega⟩
        subst hst2
        have M1 : Hid ((Num.run st2 (zs.drop (k + 1))).1 = F) := by show _ = _; simpa using k1
        have M2 : Hid (k + 1 + (Num.run st2 (zs.drop (k + 1))).2 = N) := by show _ = _; simp at k2; omega
        have hs2 : st2 ≤ 8 := by omega
        clear e k1 k2 hkz fin hrange K1 K2 hneg
        go_wp2_with (go_at_call 26; refine (step_any st hst c (st2 : Int) _ HT.out).mono ?_; rintro e w' ⟨rfl, rfl⟩)
        go_round
        case rel => exact ⟨st2, k + 1, hs2, by omega, rfl, by go_num, M1, M2⟩
        case measure => simp [intOf]; omega
    · have e := Num.run_end zs k st (by rw [HZ.out]; omega)
      have k1 := K1.out
      have k2 := K2.out
      rw [e] at k1 k2
      have HFN := fin k1 (by simpa using k2)
      clear e k1 k2 fin K1 K2
      cases hacc : Num.acc st
      · have HAC : Hid (Num.acc st = false) := hacc
        clear hacc
        go_wp2_with (go_at_call 27; refine (acc_any st hst false HAC.out _).mono ?_; rintro e w' ⟨rfl, rfl⟩)
        go_ret
        exact ⟨ret_int (by rw [HA.out, HFN.out.1, HAC.out]; rfl), rfl⟩
      · have HAC : Hid (Num.acc st = true) := hacc
        clear hacc
        go_wp2_with (go_at_call 27; refine (acc_any st hst true HAC.out _).mono ?_; rintro e w' ⟨rfl, rfl⟩)
        go_ret
        exact ⟨ret_int (by rw [HA.out, HFN.out.1, HAC.out, HFN.out.2]; rfl), rfl⟩
end Go.Proofs.Qxb6600502a
