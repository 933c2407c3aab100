/- The scanner answers as the automaton does: no Go in sight. -/
import Derived.Test.Qxb6600502aNum2
namespace Go.Proofs.Qxb6600502a.Num

/-- the automaton's answer from place k on, in state s -/
def G (zs : List Int) (s k : Nat) : Option Nat := if acc (run s (zs.drop k)).1 = true then some (k + (run s (zs.drop k)).2) else none

theorem G_end (zs : List Int) (s k : Nat) (h : zs.length ≤ k) : G zs s k = if acc s = true then some k else none := by
  simp [G, run_end zs k s h]

theorem G_stop (zs : List Int) (s k : Nat) (h : k < zs.length) (h1 : stp s (zs[k]?.getD 0) = -1) : G zs s k = if acc s = true then some k else none := by
  simp [G, run_stop zs k s h (by omega)]

theorem G_go (zs : List Int) (s n k : Nat) (h : k < zs.length) (h1 : stp s (zs[k]?.getD 0) = n) : G zs s k = G zs n (k + 1) := by
  have e := run_go zs k s h (by omega)
  rw [h1] at e
  simp only [Int.toNat_natCast] at e
  simp only [G, e]
  split
  · congr 1; omega
  · rfl

theorem stp_dig (s : Nat) (c : Int) (hs : s = 3 ∨ s = 5 ∨ s = 8) (h1 : 48 ≤ c) (h2 : c ≤ 57) : stp s c = s := by
  rcases hs with rfl | rfl | rfl <;> simp [stp, h1, h2]

/-- states 3, 5 and 8 eat digits -/
theorem G_digits (zs : List Int) (s : Nat) (hs : s = 3 ∨ s = 5 ∨ s = 8) : ∀ (n k : Nat), dig (zs.drop k) = n → G zs s k = G zs s (k + n)
  | 0, k, _ => rfl
  | n + 1, k, h => by
    by_cases hl : k < zs.length
    · by_cases hd : 48 ≤ zs[k]?.getD 0 ∧ zs[k]?.getD 0 ≤ 57
      · rw [dig_in zs k hl hd.1 hd.2] at h
        rw [G_go zs s s k hl (stp_dig s _ hs hd.1 hd.2), G_digits zs s hs n (k + 1) (by omega)]
        congr 1; omega
      · rw [dig_out zs k hl hd] at h; omega
    · rw [dig_end zs k (by omega)] at h; omega

/-- behind the digits no digit follows -/
theorem dig_stop (zs : List Int) : ∀ (n k : Nat), dig (zs.drop k) = n → dig (zs.drop (k + n)) = 0
  | 0, _, h => h
  | n + 1, k, h => by
    by_cases hl : k < zs.length
    · by_cases hd : 48 ≤ zs[k]?.getD 0 ∧ zs[k]?.getD 0 ≤ 57
      · rw [dig_in zs k hl hd.1 hd.2] at h
        have := dig_stop zs n (k + 1) (by omega)
        rw [show k + (n + 1) = k + 1 + n by omega]
        exact this
      · rw [dig_out zs k hl hd] at h; omega
    · rw [dig_end zs k (by omega)] at h; omega

theorem nodig (zs : List Int) (k : Nat) (hl : k < zs.length) (h : dig (zs.drop k) = 0) : ¬ (48 ≤ zs[k]?.getD 0 ∧ zs[k]?.getD 0 ≤ 57) := by
  intro hd
  rw [dig_in zs k hl hd.1 hd.2] at h
  omega

/-- the exponent's digits -/
theorem G_8 (zs : List Int) (k : Nat) : G zs 8 k = some (k + dig (zs.drop k)) := by
  rw [G_digits zs 8 (by simp) _ k rfl]
  have h0 := dig_stop zs _ k rfl
  by_cases hl : k + dig (zs.drop k) < zs.length
  · rw [G_stop zs 8 _ hl (by simp only [stp]; rw [if_neg (nodig zs _ hl h0)])]; simp [acc]
  · rw [G_end zs 8 _ (by omega)]; simp [acc]

theorem G_7 (zs : List Int) (k : Nat) : G zs 7 k = if dig (zs.drop k) = 0 then none else some (k + dig (zs.drop k)) := by
  by_cases hl : k < zs.length
  · by_cases hd : 48 ≤ zs[k]?.getD 0 ∧ zs[k]?.getD 0 ≤ 57
    · rw [G_go zs 7 8 k hl (by simp [stp, hd]), G_8, dig_in zs k hl hd.1 hd.2, if_neg (by omega)]
      congr 1; omega
    · rw [G_stop zs 7 k hl (by simp only [stp]; rw [if_neg hd]), dig_out zs k hl hd]; simp [acc]
  · rw [G_end zs 7 k (by omega), dig_end zs k (by omega)]; simp [acc]

theorem G_6 (zs : List Int) (i : Nat) : G zs 6 (i + 1) = if dig (zs.drop (sgn zs i)) = 0 then none else some (sgn zs i + dig (zs.drop (sgn zs i))) := by
  by_cases hl : i + 1 < zs.length
  · by_cases hs : zs[i + 1]?.getD 0 = 43 ∨ zs[i + 1]?.getD 0 = 45
    · have e : sgn zs i = i + 2 := by unfold sgn; rw [if_pos ⟨hl, hs⟩]
      rw [e, G_go zs 6 7 (i + 1) hl (by simp only [stp]; rw [if_pos hs]; rfl), G_7]
    · have e : sgn zs i = i + 1 := by unfold sgn; rw [if_neg (fun h => hs h.2)]
      rw [e]
      by_cases hd : 48 ≤ zs[i + 1]?.getD 0 ∧ zs[i + 1]?.getD 0 ≤ 57
      · rw [G_go zs 6 8 (i + 1) hl (by simp only [stp]; rw [if_neg hs, if_pos hd]; rfl), G_8, dig_in zs (i + 1) hl hd.1 hd.2, if_neg (by omega)]
        congr 1; omega
      · rw [G_stop zs 6 (i + 1) hl (by simp only [stp]; rw [if_neg hs, if_neg hd]), dig_out zs (i + 1) hl hd]; simp [acc]
  · have e : sgn zs i = i + 1 := by unfold sgn; rw [if_neg (fun h => hl h.1)]
    rw [e, G_end zs 6 _ (by omega), dig_end zs _ (by omega)]; simp [acc]

/-- the exponent, from a state in which a whole number has been read -/
theorem G_exp (zs : List Int) (s i : Nat) (hs : s = 2 ∨ s = 3 ∨ s = 5) (h1 : i < zs.length → s ≠ 5 → zs[i]?.getD 0 ≠ 46) (h2 : s ≠ 2 → dig (zs.drop i) = 0) : G zs s i = S3 zs i := by
  have ha : acc s = true := by rcases hs with rfl | rfl | rfl <;> rfl
  unfold S3
  by_cases hl : i < zs.length
  · by_cases he : zs[i]?.getD 0 = 101 ∨ zs[i]?.getD 0 = 69
    · rw [if_pos ⟨hl, he⟩, ← G_6]
      refine G_go zs s 6 i hl ?_
      rcases hs with rfl | rfl | rfl <;> simp only [stp] <;> (repeat' split) <;> omega
    · rw [if_neg (fun h => he h.2), G_stop zs s i hl ?_, if_pos ha]
      have h3 := h1 hl
      rcases hs with rfl | rfl | rfl
      · simp only [stp]; rw [if_neg (h3 (by omega)), if_neg he]
      · have h4 := nodig zs i hl (h2 (by omega))
        simp only [stp]; rw [if_neg h4, if_neg (h3 (by omega)), if_neg he]
      · have h4 := nodig zs i hl (h2 (by omega))
        simp only [stp]; rw [if_neg h4, if_neg he]
  · rw [if_neg (fun h => hl h.1), G_end zs s i (by omega), if_pos ha]

theorem G_frac (zs : List Int) (s j : Nat) (hs : s = 2 ∨ s = 3) (h2 : s = 3 → dig (zs.drop j) = 0) : G zs s j = (S2 zs j).bind (S3 zs) := by
  unfold S2
  by_cases h : j < zs.length ∧ zs[j]?.getD 0 = 46
  · rw [if_pos h, G_go zs s 4 j h.1 (by rcases hs with rfl | rfl <;> simp only [stp] <;> (repeat' split) <;> omega)]
    by_cases h0 : dig (zs.drop (j + 1)) = 0
    · rw [if_pos h0, Option.bind_none]
      by_cases hl : j + 1 < zs.length
      · have h4 := nodig zs _ hl h0
        rw [G_stop zs 4 _ hl (by simp only [stp]; rw [if_neg h4])]; simp [acc]
      · rw [G_end zs 4 _ (by omega)]; simp [acc]
    · rw [if_neg h0, Option.bind_some]
      have hl : j + 1 < zs.length := by
        by_cases hl : j + 1 < zs.length
        · exact hl
        · exact absurd (dig_end zs (j + 1) (by omega)) h0
      have hd : 48 ≤ zs[j + 1]?.getD 0 ∧ zs[j + 1]?.getD 0 ≤ 57 := by
        by_cases hd : 48 ≤ zs[j + 1]?.getD 0 ∧ zs[j + 1]?.getD 0 ≤ 57
        · exact hd
        · exact absurd (dig_out zs (j + 1) hl hd) h0
      rw [G_go zs 4 5 (j + 1) hl (by simp [stp, hd]), G_digits zs 5 (by simp) _ _ rfl]
      have e := dig_in zs (j + 1) hl hd.1 hd.2
      rw [show j + 1 + dig (zs.drop (j + 1)) = j + 1 + 1 + dig (zs.drop (j + 1 + 1)) by omega]
      exact G_exp zs 5 _ (by simp) (fun _ h => absurd rfl h) (fun _ => dig_stop zs _ _ rfl)
  · rw [if_neg h, Option.bind_some]
    exact G_exp zs s j (by omega) (fun hl _ hc => h ⟨hl, hc⟩) (fun hn => h2 (by omega))

theorem G_whole (zs : List Int) (s i : Nat) (hs : s = 1 ∨ (s = 0 ∧ zs[i]?.getD 0 ≠ 45)) : G zs s i = ((S1 zs i).bind (S2 zs)).bind (S3 zs) := by
  have ha : acc s = false := by rcases hs with rfl | ⟨rfl, _⟩ <;> rfl
  unfold S1
  by_cases hl : i < zs.length
  · rw [if_pos hl]
    by_cases h0 : zs[i]?.getD 0 = 48
    · rw [if_pos h0, Option.bind_some, ← G_frac zs 2 (i + 1) (by simp) (by simp)]
      refine G_go zs s 2 i hl ?_
      rcases hs with rfl | ⟨rfl, h⟩ <;> simp only [stp] <;> (repeat' split) <;> omega
    · rw [if_neg h0]
      by_cases hd : 49 ≤ zs[i]?.getD 0 ∧ zs[i]?.getD 0 ≤ 57
      · rw [if_pos hd, Option.bind_some]
        have e := dig_in zs i hl (by omega) hd.2
        rw [← G_frac zs 3 (i + dig (zs.drop i)) (by simp) (fun _ => dig_stop zs _ _ rfl)]
        rw [G_go zs s 3 i hl (by rcases hs with rfl | ⟨rfl, h⟩ <;> simp only [stp] <;> (repeat' split) <;> omega), G_digits zs 3 (by simp) _ _ rfl]
        congr 1; omega
      · rw [if_neg hd, Option.bind_none, Option.bind_none, G_stop zs s i hl ?_, ha]
        · simp
        · rcases hs with rfl | ⟨rfl, h⟩ <;> simp only [stp] <;> (repeat' split) <;> omega
  · rw [if_neg hl, Option.bind_none, Option.bind_none, G_end zs s i (by omega), ha]; simp

/-- THE PLAIN LAW: the scanner's answer is the automaton's -/
theorem scan_eq_model (zs : List Int) (h : 1 ≤ zs.length) : scan zs = model zs := by
  have e : model zs = G zs 0 0 := by simp [model, G]
  rw [e]
  unfold scan S0
  by_cases hc : zs[0]?.getD 0 = 45
  · rw [if_pos hc, ← G_whole zs 1 1 (.inl rfl)]
    exact (G_go zs 0 1 0 (by omega) (by simp only [stp]; rw [if_pos hc]; rfl)).symm
  · rw [if_neg hc, ← G_whole zs 0 0 (.inr ⟨rfl, hc⟩)]

end Go.Proofs.Qxb6600502a.Num
