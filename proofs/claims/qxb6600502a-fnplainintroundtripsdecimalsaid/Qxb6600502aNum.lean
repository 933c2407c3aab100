/- The plain law on JSON numbers: no Go in sight. -/
namespace Go.Proofs.Qxb6600502a.Num

/-- how many digits the list opens with -/
def dig : List Int → Nat
  | [] => 0
  | c :: t => if 48 ≤ c ∧ c ≤ 57 then dig t + 1 else 0

theorem drop_cons (zs : List Int) (k : Nat) (h : k < zs.length) : zs.drop k = (zs[k]?.getD 0) :: zs.drop (k + 1) := by
  rw [List.drop_eq_getElem_cons h]
  simp [h]

theorem dig_in (zs : List Int) (k : Nat) (h : k < zs.length) (h1 : 48 ≤ zs[k]?.getD 0) (h2 : zs[k]?.getD 0 ≤ 57) : dig (zs.drop k) = dig (zs.drop (k + 1)) + 1 := by
  rw [drop_cons zs k h, dig, if_pos ⟨h1, h2⟩]

theorem dig_out (zs : List Int) (k : Nat) (h : k < zs.length) (h1 : ¬ (48 ≤ zs[k]?.getD 0 ∧ zs[k]?.getD 0 ≤ 57)) : dig (zs.drop k) = 0 := by
  rw [drop_cons zs k h, dig, if_neg h1]

theorem dig_end (zs : List Int) (k : Nat) (h : zs.length ≤ k) : dig (zs.drop k) = 0 := by
  rw [List.drop_eq_nil_of_le h]; rfl

theorem dig_le (l : List Int) : dig l ≤ l.length := by
  induction l with
  | nil => simp [dig]
  | cons c t ih => simp only [dig]; split <;> simp <;> omega

/-- behind the sign -/
def S0 (zs : List Int) : Nat := if zs[0]?.getD 0 = 45 then 1 else 0
/-- behind the whole part that begins at i -/
def S1 (zs : List Int) (i : Nat) : Option Nat :=
  if i < zs.length then
    if zs[i]?.getD 0 = 48 then some (i + 1) else if 49 ≤ zs[i]?.getD 0 ∧ zs[i]?.getD 0 ≤ 57 then some (i + dig (zs.drop i)) else none
  else none
/-- behind the fraction, if one begins at i -/
def S2 (zs : List Int) (i : Nat) : Option Nat :=
  if i < zs.length ∧ zs[i]?.getD 0 = 46 then
    if dig (zs.drop (i + 1)) = 0 then none else some (i + 1 + dig (zs.drop (i + 1)))
  else some i
/-- where the exponent's digits begin, the 'e' being at i -/
def sgn (zs : List Int) (i : Nat) : Nat := if i + 1 < zs.length ∧ (zs[i + 1]?.getD 0 = 43 ∨ zs[i + 1]?.getD 0 = 45) then i + 2 else i + 1
/-- behind the exponent, if one begins at i -/
def S3 (zs : List Int) (i : Nat) : Option Nat :=
  if i < zs.length ∧ (zs[i]?.getD 0 = 101 ∨ zs[i]?.getD 0 = 69) then
    if dig (zs.drop (sgn zs i)) = 0 then none else some (sgn zs i + dig (zs.drop (sgn zs i)))
  else some i
def scan (zs : List Int) : Option Nat := ((S1 zs (S0 zs)).bind (S2 zs)).bind (S3 zs)
/-- the answer as Go's int -/
def ans : Option Nat → Int
  | none => -1
  | some n => n

/-- what digits passes over: the byte ahead of the end is the byte ahead of the start only if nothing was passed over -/
theorem dig_last (zs : List Int) : ∀ (n i : Nat), dig (zs.drop i) = n + 1 → i + n < zs.length ∧ 48 ≤ zs[i + n]?.getD 0 ∧ zs[i + n]?.getD 0 ≤ 57
  | 0, i, h => by
    have hl : i < zs.length := by
      by_cases hl : i < zs.length
      · exact hl
      · rw [dig_end zs i (by omega)] at h; omega
    by_cases hd : 48 ≤ zs[i]?.getD 0 ∧ zs[i]?.getD 0 ≤ 57
    · exact ⟨hl, hd⟩
    · rw [dig_out zs i hl hd] at h; omega
  | n + 1, i, h => by
    have hl : i < zs.length := by
      by_cases hl : i < zs.length
      · exact hl
      · rw [dig_end zs i (by omega)] at h; omega
    by_cases hd : 48 ≤ zs[i]?.getD 0 ∧ zs[i]?.getD 0 ≤ 57
    · rw [dig_in zs i hl hd.1 hd.2] at h
      have := dig_last zs n (i + 1) (by omega)
      rw [show i + (n + 1) = i + 1 + n by omega]
      exact this
    · rw [dig_out zs i hl hd] at h; omega

end Go.Proofs.Qxb6600502a.Num
