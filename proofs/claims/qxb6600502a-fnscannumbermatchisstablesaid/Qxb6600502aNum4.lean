/- A match is stable: no Go in sight. -/
import Derived.Test.Qxb6600502aNum3
namespace Go.Proofs.Qxb6600502a.Num

theorem run_take (c : Int) : ∀ (l : List Int) (s : Nat), (run s l).2 ≤ l.length ∧ run s (l.take (run s l).2) = run s l ∧ (stp (run s l).1 c < 0 → run s (l.take (run s l).2 ++ [c]) = run s l)
  | [], s => ⟨by simp [run], by simp [run], fun h => by simp only [run] at h ⊢; simp [run, h]⟩
  | d :: t, s => by
    by_cases hd : stp s d < 0
    · have e : run s (d :: t) = (s, 0) := by simp [run, hd]
      rw [e]
      exact ⟨by simp, by simp [run], fun h => by simp only at h; simp [run, h]⟩
    · have e : run s (d :: t) = ((run (stp s d).toNat t).1, (run (stp s d).toNat t).2 + 1) := by simp [run, hd]
      obtain ⟨i1, i2, i3⟩ := run_take c t (stp s d).toNat
      rw [e]
      refine ⟨by simp; omega, ?_, fun h => ?_⟩
      · simp only [List.take_succ_cons, run, if_neg hd, i2]
      · simp only [List.take_succ_cons, List.cons_append, run, if_neg hd, i3 h]

/-- a byte that may extend a complete number -/
def cont (c : Int) : Bool := (decide (48 ≤ c) && decide (c ≤ 57)) || c == 46 || c == 101 || c == 69

theorem stp_cont (s : Nat) (c : Int) (hs : acc s = true) (hc : cont c = false) : stp s c < 0 := by
  have h : ¬ (48 ≤ c ∧ c ≤ 57) ∧ c ≠ 46 ∧ ¬ (c = 101 ∨ c = 69) := by
    simp [cont] at hc
    omega
  have hs' : s = 2 ∨ s = 3 ∨ s = 5 ∨ s = 8 := by
    simp [acc] at hs
    omega
  rcases hs' with rfl | rfl | rfl | rfl <;> simp only [stp] <;> (repeat' split) <;> omega

theorem model_stable (zs : List Int) (n : Nat) (h : model zs = some n) : 1 ≤ n ∧ n ≤ zs.length ∧ model (zs.take n) = some n ∧ ∀ c, cont c = false → model (zs.take n ++ [c]) = some n := by
  unfold model at h
  split at h
  · rename_i ha
    have hn : (run 0 zs).2 = n := by simpa using h
    have h0 := run_take 0 zs 0
    rw [hn] at h0
    refine ⟨?_, h0.1, ?_, fun c hc => ?_⟩
    · by_cases hz : n = 0
      · have e := h0.2.1
        rw [hz] at e
        simp only [List.take_zero, run] at e
        rw [← e] at ha
        simp [acc] at ha
      · omega
    · unfold model; rw [h0.2.1, ha, hn]; rfl
    · have h1 := (run_take c zs 0).2.2 (stp_cont _ c ha hc)
      rw [hn] at h1
      unfold model; rw [h1, ha, hn]; rfl
  · cases h

theorem scan_stable (zs : List Int) (n : Nat) (h1 : 1 ≤ zs.length) (h : scan zs = some n) : 1 ≤ n ∧ n ≤ zs.length ∧ scan (zs.take n) = some n ∧ ∀ c, cont c = false → scan (zs.take n ++ [c]) = some n := by
  rw [scan_eq_model zs h1] at h
  obtain ⟨a, b, c, d⟩ := model_stable zs n h
  refine ⟨a, b, ?_, fun x hx => ?_⟩
  · rw [scan_eq_model _ (by simp; omega)]; exact c
  · rw [scan_eq_model _ (by simp)]; exact d x hx

end Go.Proofs.Qxb6600502a.Num
