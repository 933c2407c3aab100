import Derived.Test.Qxb6600502aScan
import Derived.Deep.CutBlock
namespace Go.Proofs.Qxb6600502a
open Go.RowKit

/-- the Bool b says p -/
structure TB (b : Bool) (p : Prop) : Prop where
  out : b = true ↔ p

theorem dig_bound (zs : List Int) (i len : Nat) (hz : zs.length = len) (hi : i ≤ len) : i + Num.dig (zs.drop i) ≤ len := by
  have := Num.dig_le (zs.drop i)
  simp at this
  omega

set_option maxHeartbeats 400000 in
set_option maxRecDepth 4000 in
theorem scan_any (g len cap : Nat) (zs : List Int) (R : Int) (w : World) (hz : zs.length = len) (hm : len ≤ 1048577) (hi : 1 ≤ len) (hb : BytesAt w g zs) (hR : Num.ans (Num.scan zs) = R) :
    Calls Try.prog 25 #[.slice (some ⟨g, 0, none⟩) len cap] w fun e w' => e = .returned (.int .i64 R) ∧ w' = w := by
  have HZ : Hid (zs.length = len) := hz
  have HB : Hid (BytesAt w g zs) := hb
  have HR : Hid (Num.ans (Num.scan zs) = R) := hR
  clear hz hb hR
  obtain ⟨c, hcc⟩ : ∃ c, c = zs[0]?.getD 0 := ⟨_, rfl⟩
  have hcell := HB.out 0 (by rw [HZ.out]; omega)
  rw [← hcc] at hcell
  have HC : Hid (c = zs[0]?.getD 0) := hcc
  clear hcc
  go_enter Try.func25, Try.ntmps25
  go_upto_if 9 with fail
  go_cut [3] (fun v wx => ∃ k : Nat, k ≤ 1 ∧ v = .int .i64 k ∧ Hid (Num.S0 zs = k) ∧ w = wx)
  case first =>
    by_cases h : c = 45
    · have hd : (c == 45) = true := by simp [h]
      have K : Hid (Num.S0 zs = 1) := by show _ = _; unfold Num.S0; rw [← HC.out, if_pos h]
      clear h
      go_wp2_with fail
      go_meet
      case rel => exact ⟨1, by omega, rfl, K, rfl⟩
    · have hd : (c == 45) = false := by simp [h]
      have K : Hid (Num.S0 zs = 0) := by show _ = _; unfold Num.S0; rw [← HC.out, if_neg h]
      clear h
      go_wp2_with fail
      go_meet
      case rel => exact ⟨0, by omega, rfl, K, rfl⟩
  case rest =>
    obtain ⟨i, hi1, rfl, K0, rfl⟩ := hcut
    clear hcell HC c
    go_upto_block 0 with fail
    go_cut [3] (fun v wx => ∃ k : Nat, k ≤ len ∧ v = .int .i64 k ∧ Hid (Num.S1 zs i = some k) ∧ w = wx)
    case first =>
      by_cases hl : i < len
      · have hil : i < zs.length := by rw [HZ.out]; exact hl
        obtain ⟨c, hcc⟩ : ∃ c, c = zs[i]?.getD 0 := ⟨_, rfl⟩
        have hcell := HB.out i hil
        rw [← hcc] at hcell
        by_cases h : c = 48
        · have hd : (c == 48) = true := by simp [h]
          have K : Hid (Num.S1 zs i = some (i + 1)) := by show _ = _; unfold Num.S1; rw [if_pos hil, ← hcc, if_pos h]
          clear h hcc hil
          go_wp2_with fail
          go_meet
          case rel => exact ⟨i + 1, by omega, by go_num, K, rfl⟩
        · have hd : (c == 48) = false := by simp [h]
          by_cases h2 : 49 ≤ c ∧ c ≤ 57
          · have K : Hid (Num.S1 zs i = some (i + Num.dig (zs.drop i))) := by show _ = _; unfold Num.S1; rw [if_pos hil, ← hcc, if_neg h, if_pos h2]
            obtain ⟨h3, h4⟩ := h2
            have hbd := dig_bound zs i len HZ.out (by omega)
            obtain ⟨r, hr⟩ : ∃ r, i + Num.dig (zs.drop i) = r := ⟨_, rfl⟩
            rw [hr] at K hbd
            have HR1 : Hid (i + Num.dig (zs.drop i) = r) := hr
            clear h hcc hil hr
            go_wp2_with (go_at_call 30; refine (digits_any g len cap i r zs _ HZ.out hm (by omega) HB.out HR1.out).mono ?_; rintro e w' ⟨rfl, rfl⟩)
            go_meet
            case rel => exact ⟨r, by omega, rfl, K, rfl⟩
          · have K : Hid (Num.S1 zs i = none) := by show _ = _; unfold Num.S1; rw [if_pos hil, ← hcc, if_neg h, if_neg h2]
            have hR2 : Hid ((-1 : Int) = R) := by show _ = _; rw [← HR.out]; unfold Num.scan; rw [K0.out, K.out]; rfl
            have h3 : c < 49 ∨ 57 < c := by omega
            clear h hcc hil h2
            rcases h3 with h3 | h3
            · go_wp2_with fail
              go_ret
              exact ⟨ret_int hR2.out, rfl⟩
            · go_wp2_with fail
              go_ret
              exact ⟨ret_int hR2.out, rfl⟩
      · have K : Hid (Num.S1 zs i = none) := by show _ = _; unfold Num.S1; rw [if_neg (by rw [HZ.out]; exact hl)]
        have hR2 : Hid ((-1 : Int) = R) := by show _ = _; rw [← HR.out]; unfold Num.scan; rw [K0.out, K.out]; rfl
        go_wp2_with fail
        go_ret
        exact ⟨ret_int hR2.out, rfl⟩
    case rest =>
      obtain ⟨j, hj, rfl, K1, rfl⟩ := hcut
      clear hi1
      go_upto_region 9 with fail
      obtain ⟨c, hcc⟩ : ∃ c, c = zs[j]?.getD 0 := ⟨_, rfl⟩
      have HC : Hid (c = zs[j]?.getD 0) := hcc
      have hcell : j < len → w.cell? ⟨g, j, none⟩ = some (.int .u8 c) := fun h => by rw [hcc]; exact HB.out j (by rw [HZ.out]; exact h)
      clear hcc
      go_cut [58] (fun v wx => ∃ b : Bool, v = .bool b ∧ TB b (j < len ∧ c = 46) ∧ w = wx)
      case first =>
        by_cases hl : j < len
        · have hcell := hcell hl
          by_cases h : c = 46
          · have hd : (c == 46) = true := by simp [h]
            have K : (true : Bool) = true ↔ (j < len ∧ c = 46) := by simp [hl, h]
            replace K := TB.mk K
            clear h
            go_wp2_with fail
            go_meet
            case rel => exact ⟨true, rfl, K, rfl⟩
          · have hd : (c == 46) = false := by simp [h]
            have K : (false : Bool) = true ↔ (j < len ∧ c = 46) := by simp [h]
            replace K := TB.mk K
            clear h
            go_wp2_with fail
            go_meet
            case rel => exact ⟨false, rfl, K, rfl⟩
        · have K : (false : Bool) = true ↔ (j < len ∧ c = 46) := by simp [hl]
          replace K := TB.mk K
          clear hcell
          go_wp2_with fail
          go_meet
          case rel => exact ⟨false, rfl, K, rfl⟩
      case rest =>
        obtain ⟨b, rfl, KB, rfl⟩ := hcut
        go_upto_if 58 with fail
        go_cut [3] (fun v wx => ∃ k : Nat, k ≤ len ∧ v = .int .i64 k ∧ Hid (Num.S2 zs j = some k) ∧ w = wx)
        case first =>
          by_cases h : j < len ∧ c = 46
          · obtain ⟨r, hr⟩ : ∃ r, j + 1 + Num.dig (zs.drop (j + 1)) = r := ⟨_, rfl⟩
            have hbd := dig_bound zs (j + 1) len HZ.out (by omega)
            rw [hr] at hbd
            have hr1 : j + 1 ≤ r := by omega
            have HR1 : Hid (j + 1 + Num.dig (zs.drop (j + 1)) = r) := hr
            obtain rfl : b = true := KB.out.2 h
            have hjz : j < zs.length := by rw [HZ.out]; exact h.1
            obtain ⟨d, hdd⟩ : ∃ d, d = zs[r - 1]?.getD 0 := ⟨_, rfl⟩
            have hcell2 : w.cell? ⟨g, r - 1, none⟩ = some (.int .u8 d) := by rw [hdd]; exact HB.out (r - 1) (by rw [HZ.out]; omega)
            have hjl : j < len := h.1
            by_cases h0 : Num.dig (zs.drop (j + 1)) = 0
            · have hd2 : (d == 46) = true := by
                rw [hdd, show r - 1 = j by omega, ← HC.out]; simp [h.2]
              have K : Hid (Num.S2 zs j = none) := by
                show _ = _; unfold Num.S2; rw [if_pos ⟨hjz, by rw [← HC.out]; exact h.2⟩, if_pos h0]
              have hR2 : Hid ((-1 : Int) = R) := by show _ = _; rw [← HR.out]; unfold Num.scan; rw [K0.out, K1.out, Option.bind_some, K.out]; rfl
              clear h hr hdd h0 hjz hcell
              go_wp2_with (go_at_call 30; refine (digits_at g len cap (j + 1) r _ zs _ (by omega) HZ.out hm (by omega) HB.out HR1.out).mono ?_; rintro e w' ⟨rfl, rfl⟩)
              go_ret
              exact ⟨ret_int hR2.out, rfl⟩
            · have hl := Num.dig_last zs (Num.dig (zs.drop (j + 1)) - 1) (j + 1) (by omega)
              rw [show j + 1 + (Num.dig (zs.drop (j + 1)) - 1) = r - 1 by omega, ← hdd] at hl
              have hd2 : (d == 46) = false := by simp; omega
              have K : Hid (Num.S2 zs j = some r) := by
                show _ = _; unfold Num.S2; rw [if_pos ⟨hjz, by rw [← HC.out]; exact h.2⟩, if_neg h0, hr]
              clear h hr hdd h0 hjz hcell hl
              go_wp2_with (go_at_call 30; refine (digits_at g len cap (j + 1) r _ zs _ (by omega) HZ.out hm (by omega) HB.out HR1.out).mono ?_; rintro e w' ⟨rfl, rfl⟩)
              go_meet
              case rel => exact ⟨r, by omega, rfl, K, rfl⟩
          · obtain rfl : b = false := by cases b with | false => rfl | true => exact absurd (KB.out.1 rfl) h
            have K : Hid (Num.S2 zs j = some j) := by
              show _ = _; unfold Num.S2; rw [if_neg (by rw [HZ.out, ← HC.out]; exact h)]
            clear h hcell
            go_wp2_with fail
            go_meet
            case rel => exact ⟨j, by omega, rfl, K, rfl⟩
        case rest =>
          obtain ⟨i2, hi2, rfl, K2, rfl⟩ := hcut
          clear KB HC hcell c
          go_upto_region 13 with fail
          obtain ⟨c, hcc⟩ : ∃ c, c = zs[i2]?.getD 0 := ⟨_, rfl⟩
          have HC : Hid (c = zs[i2]?.getD 0) := hcc
          have hcell : i2 < len → w.cell? ⟨g, i2, none⟩ = some (.int .u8 c) := fun h => by rw [hcc]; exact HB.out i2 (by rw [HZ.out]; exact h)
          clear hcc
          go_cut [86] (fun v wx => ∃ b : Bool, v = .bool b ∧ TB b (i2 < len ∧ (c = 101 ∨ c = 69)) ∧ w = wx)
          case first =>
            by_cases hl : i2 < len
            · have hcell := hcell hl
              by_cases h : c = 101
              · have hd : (c == 101) = true := by simp [h]
                have K : (true : Bool) = true ↔ (i2 < len ∧ (c = 101 ∨ c = 69)) := by simp [hl, h]
                replace K := TB.mk K
                clear h
                go_wp2_with fail
                go_meet
                case rel => exact ⟨true, rfl, K, rfl⟩
              · have hd : (c == 101) = false := by simp [h]
                by_cases h2 : c = 69
                · have hd2 : (c == 69) = true := by simp [h2]
                  have K : (true : Bool) = true ↔ (i2 < len ∧ (c = 101 ∨ c = 69)) := by simp [hl, h2]
                  replace K := TB.mk K
                  clear h h2
                  go_wp2_with fail
                  go_meet
                  case rel => exact ⟨true, rfl, K, rfl⟩
                · have hd2 : (c == 69) = false := by simp [h2]
                  have K : (false : Bool) = true ↔ (i2 < len ∧ (c = 101 ∨ c = 69)) := by simp [h, h2]
                  replace K := TB.mk K
                  clear h h2
                  go_wp2_with fail
                  go_meet
                  case rel => exact ⟨false, rfl, K, rfl⟩
            · have K : (false : Bool) = true ↔ (i2 < len ∧ (c = 101 ∨ c = 69)) := by simp [hl]
              replace K := TB.mk K
              clear hcell
              go_wp2_with fail
              go_meet
              case rel => exact ⟨false, rfl, K, rfl⟩
          case rest =>
            obtain ⟨b, rfl, KB, rfl⟩ := hcut
            by_cases h : i2 < len ∧ (c = 101 ∨ c = 69)
            · obtain rfl : b = true := KB.out.2 h
              have HE : Hid (i2 < zs.length ∧ (zs[i2]?.getD 0 = 101 ∨ zs[i2]?.getD 0 = 69)) := by show _ ∧ _; rw [HZ.out, ← HC.out]; exact h
              have hil : i2 < len := h.1
              clear h hcell
              go_upto_region 15 with fail
              clear KB HC c
              obtain ⟨c, hcc⟩ : ∃ c, c = zs[i2 + 1]?.getD 0 := ⟨_, rfl⟩
              have HC : Hid (c = zs[i2 + 1]?.getD 0) := hcc
              have hcell : i2 + 1 < len → w.cell? ⟨g, i2 + 1, none⟩ = some (.int .u8 c) := fun h => by rw [hcc]; exact HB.out (i2 + 1) (by rw [HZ.out]; exact h)
              clear hcc
              go_cut [106] (fun v wx => ∃ b : Bool, v = .bool b ∧ TB b (i2 + 1 < len ∧ (c = 43 ∨ c = 45)) ∧ w = wx)
              case first =>
                by_cases hl : i2 + 1 < len
                · have hcell := hcell hl
                  by_cases h : c = 43
                  · have hd : (c == 43) = true := by simp [h]
                    have K : (true : Bool) = true ↔ (i2 + 1 < len ∧ (c = 43 ∨ c = 45)) := by simp [hl, h]
                    replace K := TB.mk K
                    clear h
                    go_wp2_with fail
                    go_meet
                    case rel => exact ⟨true, rfl, K, rfl⟩
                  · have hd : (c == 43) = false := by simp [h]
                    by_cases h2 : c = 45
                    · have hd2 : (c == 45) = true := by simp [h2]
                      have K : (true : Bool) = true ↔ (i2 + 1 < len ∧ (c = 43 ∨ c = 45)) := by simp [hl, h2]
                      replace K := TB.mk K
                      clear h h2
                      go_wp2_with fail
                      go_meet
                      case rel => exact ⟨true, rfl, K, rfl⟩
                    · have hd2 : (c == 45) = false := by simp [h2]
                      have K : (false : Bool) = true ↔ (i2 + 1 < len ∧ (c = 43 ∨ c = 45)) := by simp [h, h2]
                      replace K := TB.mk K
                      clear h h2
                      go_wp2_with fail
                      go_meet
                      case rel => exact ⟨false, rfl, K, rfl⟩
                · have K : (false : Bool) = true ↔ (i2 + 1 < len ∧ (c = 43 ∨ c = 45)) := by simp [hl]
                  replace K := TB.mk K
                  clear hcell
                  go_wp2_with fail
                  go_meet
                  case rel => exact ⟨false, rfl, K, rfl⟩
              case rest =>
                obtain ⟨b, rfl, KB, rfl⟩ := hcut
                go_upto_if 106 with fail
                go_cut [3] (fun v wx => ∃ k : Nat, k ≤ len ∧ v = .int .i64 k ∧ Hid (Num.sgn zs i2 = k) ∧ w = wx)
                case first =>
                  by_cases h : i2 + 1 < len ∧ (c = 43 ∨ c = 45)
                  · obtain rfl : b = true := KB.out.2 h
                    have hl : i2 + 1 < len := h.1
                    have K : Hid (Num.sgn zs i2 = i2 + 2) := by show _ = _; unfold Num.sgn; rw [if_pos (by rw [HZ.out, ← HC.out]; exact h)]
                    clear h hcell
                    go_wp2_with fail
                    go_meet
                    case rel => exact ⟨i2 + 2, by omega, by go_num, K, rfl⟩
                  · obtain rfl : b = false := by cases b with | false => rfl | true => exact absurd (KB.out.1 rfl) h
                    have K : Hid (Num.sgn zs i2 = i2 + 1) := by show _ = _; unfold Num.sgn; rw [if_neg (by rw [HZ.out, ← HC.out]; exact h)]
                    clear h hcell
                    go_wp2_with fail
                    go_meet
                    case rel => exact ⟨i2 + 1, by omega, by go_num, K, rfl⟩
                case rest =>
                  obtain ⟨k, hk, rfl, K3, rfl⟩ := hcut
                  clear KB HC hcell c
                  obtain ⟨r, hr⟩ : ∃ r, k + Num.dig (zs.drop k) = r := ⟨_, rfl⟩
                  have hbd := dig_bound zs k len HZ.out (by omega)
                  rw [hr] at hbd
                  have HR1 : Hid (k + Num.dig (zs.drop k) = r) := hr
                  by_cases h0 : Num.dig (zs.drop k) = 0
                  · have hrk : r = k := by omega
                    have K : Hid (Num.S3 zs i2 = none) := by
                      show _ = _; unfold Num.S3; rw [if_pos HE.out, K3.out, if_pos h0]
                    have hR2 : Hid ((-1 : Int) = R) := by show _ = _; rw [← HR.out]; unfold Num.scan; rw [K0.out, K1.out, Option.bind_some, K2.out, Option.bind_some, K.out]; rfl
                    clear hr h0
                    subst hrk
                    go_wp2_with (go_at_call 30; refine (digits_any g len cap r r zs _ HZ.out hm (by omega) HB.out HR1.out).mono ?_; rintro e w' ⟨rfl, rfl⟩)
                    go_ret
                    exact ⟨ret_int hR2.out, rfl⟩
                  · have hrk : k < r := by omega
                    have K : Hid (Num.S3 zs i2 = some r) := by
                      show _ = _; unfold Num.S3; rw [if_pos HE.out, K3.out, if_neg h0, hr]
                    have hR2 : Hid ((r : Int) = R) := by show _ = _; rw [← HR.out]; unfold Num.scan; rw [K0.out, K1.out, Option.bind_some, K2.out, Option.bind_some, K.out]; rfl
                    clear hr h0
                    go_wp2_with (go_at_call 30; refine (digits_any g len cap k r zs _ HZ.out hm (by omega) HB.out HR1.out).mono ?_; rintro e w' ⟨rfl, rfl⟩)
                    go_ret
                    exact ⟨ret_int hR2.out, rfl⟩
            · obtain rfl : b = false := by cases b with | false => rfl | true => exact absurd (KB.out.1 rfl) h
              have K : Hid (Num.S3 zs i2 = some i2) := by
                show _ = _; unfold Num.S3; rw [if_neg (by rw [HZ.out, ← HC.out]; exact h)]
              have hR2 : Hid ((i2 : Int) = R) := by show _ = _; rw [← HR.out]; unfold Num.scan; rw [K0.out, K1.out, Option.bind_some, K2.out, Option.bind_some, K.out]; rfl
              clear h hcell
              go_wp2_with fail
              go_ret
              exact ⟨ret_int hR2.out, rfl⟩
end Go.Proofs.Qxb6600502a
